/- Parts of the proof of one law, in the order in which they build. The printed sizes' tests and 'attributes' end at every row of attributes; what their answers mean. Plain Lean. · spec.listed: the packet of an attribute. · Attributes as trees of the reference: their depth, their sizes. Plain Lean. · Plain maths: an entry, decoded; impl.Entry at what laws.plain made. · spec.Add: the packet of a request to add. · spec.Entry: the packet of an entry. · The printed test zzFits13 ends at every row of attributes. Plain Lean. · laws.FnEntry answers true at every name and every row of attributes. · What a law's argument reads as, in the print's kinds: from the row's reading ('DataW.trod') to 'Kd.K', for whole numbers, bools, strings, slices, structs, and types that hold themselves. General in the program. · What arguments of the types []impl.Attribute and []impl.Change read as. -/
import Derived.ProofKit
import Derived.SizedLaws
import Derived.Test.YteockihoefbmdaaGreatDoorEty1
import Derived.Test.YteockihoefbmdaaGreatDoorEty2
import Derived.Test.YteockihoefbmdaaGreatDoorEty3
import Derived.Test.YteockihoefbmdaaGreatDoorEty4
import Derived.Test.YteockihoefbmdaaGreatDoorEty5
import Derived.Test.YteockihoefbmdaaGreatDoorEty6
import Derived.Test.YteockihoefbmdaaGreatDoorEty7
import Derived.Test.YteockihoefbmdaaGreatDoorEty8
import Derived.Test.YteockihoefbmdaaGreatDoorEty9
import Derived.Test.YteockihoefbmdaaGreatDoorEty10
import Derived.Test.YteockihoefbmdaaGreatDoorEty11
import Derived.Test.YteockihoefbmdaaGreatDoorEty12
import Derived.Test.YteockihoefbmdaaGreatDoorEty13
namespace Go.Proofs.YteockihoefbmdaaGreatDoor.Ber
open Go.RowKit Go.Proofs.YteockihoefbmdaaGreatDoorW.PrintWords Go.Proofs.YteockihoefbmdaaGreatDoor.PFnEncode Go.Proofs.YteockihoefbmdaaGreatDoor.Tree Go.Proofs.YteockihoefbmdaaGreatDoor.Buf Go.Proofs.YteockihoefbmdaaGreatDoor.Pk Go.Proofs.YteockihoefbmdaaGreatDoor.Within Go.Proofs.YteockihoefbmdaaGreatDoor.Num
set_option linter.unusedVariables false
set_option linter.unusedSimpArgs false

theorem fits12_l0 (l : List (List Int)) (hl : l.length ≤ 2147483647) : ∀ (n j : Nat), j + n = l.length → ∃ b, laws_zzFits12.l0 (n + 1) l (l.length : Int) (j : Int) = some b := by
  intro n
  induction n with
  | zero =>
    intro j hj
    exact ⟨true, by rw [laws_zzFits12.l0, if_neg (by omega)]⟩
  | succ n ih =>
    intro j hj
    have e : wrap64 ((j : Int) + 1) = ((j + 1 : Nat) : Int) := by unfold wrap64; omega
    rw [laws_zzFits12.l0, if_pos (by omega), if_pos (by omega), if_pos (by omega), e]
    split
    · exact ⟨_, rfl⟩
    · exact ih (j + 1) (by omega)
theorem fits12_ends (l : List (List Int)) : ∃ k b, laws_zzFits12.f k l = some b ∧ (b = true → l.length ≤ 2147483647) := by
  by_cases h : (l.length : Int) > 2147483647
  · exact ⟨0, false, by rw [laws_zzFits12.f, if_pos h], fun h => absurd h (by decide)⟩
  · obtain ⟨b, hb⟩ := fits12_l0 l (by omega) l.length 0 (by omega)
    exact ⟨_, b, by rw [laws_zzFits12.f, if_neg h]; exact hb, fun _ => by omega⟩
theorem fits11_ends (nm : ByteArray) (l : List (List Int)) : ∃ k b, laws_zzFits11.f k nm l = some b ∧ (b = true → nm.size ≤ 2147483647 ∧ l.length ≤ 2147483647) := by
  by_cases h : (nm.size : Int) > 2147483647
  · exact ⟨0, false, by rw [laws_zzFits11.f, if_pos h], fun h => absurd h (by decide)⟩
  · obtain ⟨k, b, hb, hi⟩ := fits12_ends l
    refine ⟨k, b, ?_, fun hbt => ⟨by omega, hi hbt⟩⟩
    rw [laws_zzFits11.f, if_neg h, hb]
    cases b <;> rfl

/-- an attribute of sizes that are spoken of -/
def fitA (a : S58) : Prop := a.f0.size ≤ 2147483647 ∧ a.f1.length ≤ 2147483647
theorem short_ends (L : List ByteArray) (hL : L.length < 4611686018427387904) {k : Nat} (hk : L.length < k) : laws_short.f k L = some (shortT L) := by
  have h := short_l0 L L [] (by simpa using hL)
  have h' : laws_short.f (L.length + 1) L = some (shortT L) := by
    unfold laws_short.f shortT
    simpa using h
  exact at_rounds (laws_short.mono _) (by omega) h'

/-- what a short attribute is -/
def shortA (a : S58) : Prop := a.f0.size ≤ 200 ∧ a.f1.length ≤ 19 ∧ ∀ s, s ∈ a.f1 → s.length ≤ 200
theorem strOf_size (l : List Int) : (strOfNums l).size = l.length := by
  simp [strOfNums, ByteArray.size]
theorem shortA_of (a : S58) (h : shortT (a.f0 :: a.f1.map strOfNums) = true) : shortA a := by
  simp only [shortT, List.all_cons, List.all_map, Bool.and_eq_true, decide_eq_true_eq, List.length_cons, List.length_map, List.all_eq_true, Function.comp_apply] at h
  refine ⟨h.1.1, by omega, fun s hs => ?_⟩
  have := h.1.2 s hs
  rwa [strOf_size] at this
theorem attributes_ends (l : List S58) (hl : l.length ≤ 2147483647) (hv : ∀ a, a ∈ l → fitA a) : ∃ k r b, laws_attributes.f k l = some (r, b) ∧ (b = true → r = l.map attrOf ∧ l.length ≤ 10 ∧ ∀ a, a ∈ l → shortA a) := by
  obtain ⟨K, hK⟩ : ∃ K, ∀ a, a ∈ l → a.f1.length + 2 < K := ⟨2147483650, fun a ha => by have := (hv a ha).2; omega⟩
  obtain ⟨r, b, h1, h2⟩ := attributes_l0 l (by omega) (fun a ha => (hv a ha).2) K hK (fun L hL => ⟨shortT L, fun k hk => short_ends L (by omega) (by omega)⟩) l.length 0 (l.length + K + 1) (by omega) (by omega)
  refine ⟨_, r, b, h1, fun hb => ?_⟩
  obtain ⟨h3, h4, h5⟩ := h2 hb
  refine ⟨h3, h4, fun a ha => shortA_of a ?_⟩
  have h6 := h5 a (by simpa using ha) (a.f1.length + 3) (by omega)
  rw [short_ends _ (by simp; have := (hv a ha).2; omega) (by simp)] at h6
  exact Option.some.inj h6

/-- the trees' sizes -/
theorem okA_of {a : S58} (h : shortA a) : okA (attrOf a) := by
  refine ⟨Nat.le_trans h.1 (by decide), fun s hs => ?_, by simp [attrOf]; have := h.2.1; omega⟩
  obtain ⟨x, hx, rfl⟩ := List.mem_map.1 hs
  rw [strOf_size]
  exact Nat.le_trans (h.2.2 x hx) (by decide)
end Go.Proofs.YteockihoefbmdaaGreatDoor.Ber
namespace Go.Proofs.YteockihoefbmdaaGreatDoor.Ber
open Go.RowKit Go.Proofs.YteockihoefbmdaaGreatDoorW.PrintWords Go.Proofs.YteockihoefbmdaaGreatDoor.PFnEncode Go.Proofs.YteockihoefbmdaaGreatDoor.Buf Go.Proofs.YteockihoefbmdaaGreatDoor.Pk Go.Proofs.YteockihoefbmdaaGreatDoor.Within Go.Proofs.YteockihoefbmdaaGreatDoor.Num
set_option linter.unusedVariables false
set_option linter.unusedSimpArgs false

/-- an attribute's packet -/
def tSet (l : List ByteArray) : S34 := ⟨0, 17, true, [], l.map tO⟩
def tAttr (x : S60) : S34 := tL [tO x.f0, tSet x.f1]

set_option maxHeartbeats 3200000 in
set_option maxRecDepth 100000 in
theorem listed_nw (x : S60) (A : Option Addr) (c : Nat) (w : World) (hC : Kd.string.C w A x.f1.length x.f1) (hnm : x.f0.size ≤ 1000000) (hl : ∀ s, s ∈ x.f1 → s.size ≤ 1000000) (hn : x.f1.length ≤ 1000) :
    Calls Tryz.prog 98 #[.agg #[.string x.f0, .slice A x.f1.length c]] w (Nw w.heap.size w (tAttr x)) := by
  obtain ⟨nm, l⟩ := x
  simp only at hC hnm hl hn ⊢
  have HC := Lib.hid hC
  have HO1 : Hid (∀ W, Calls Tryz.prog 37 #[.string nm] W (Nw W.heap.size W (tO nm))) := Lib.hid (fun W => octets_nw nm W (by omega))
  have HO2 : Hid (∀ s, s ∈ l → ∀ W, Calls Tryz.prog 37 #[.string s] W (Nw W.heap.size W (tO s))) := Lib.hid (fun s hs W => octets_nw s W (by have := hl s hs; omega))
  have HLI : Hid (∀ (A : Option Addr) (cc : Nat) (W : World), Kd.F k34 W (fun k => w.heap.size + 2 ≤ k) A [tO nm, tSet l].length [tO nm, tSet l] → 2 ≤ cc → w.heap.size + 2 ≤ W.heap.size → Calls Tryz.prog 34 #[.slice A 2 cc] W (Nw (w.heap.size + 2) W (tAttr ⟨nm, l⟩))) :=
    Lib.hid (fun A cc W h1 h2 h3 => list_nw [tO nm, tSet l] A cc W h1 h2 h3)
  obtain ⟨x1, hx1⟩ : ∃ x, x = tO nm := ⟨_, rfl⟩
  obtain ⟨x2, hx2⟩ : ∃ x, x = tSet l := ⟨_, rfl⟩
  obtain ⟨y, hy⟩ : ∃ y, y = tAttr ⟨nm, l⟩ := ⟨_, rfl⟩
  rw [← hx1] at HO1 HLI
  rw [← hx2] at HLI
  rw [← hy] at HLI ⊢
  have HX2 := Lib.hid hx2
  obtain ⟨W0, hW0⟩ : ∃ W0, W0 = (w.alloc (.cells #[.string nm, .slice A l.length c] 60)).alloc (.cells #[.int .i64 0, .int .i64 0, .bool false, .slice none 0 0, .slice none 0 0] 34) := ⟨_, rfl⟩
  have hb0 : Below w.heap.size w W0 := by rw [hW0]; exact below_alloc (below_alloc (Below.refl _ _) _) _
  have hs0 : W0.heap.size = w.heap.size + 2 := by rw [hW0]; simp
  have hx0 : W0.heap[w.heap.size]? = some (.cells #[.string nm, .slice A l.length c] 60 (0, 0)) := by rw [hW0]; exact blk_alloc (blk_new _ _) _
  have hz0 : W0.heap[w.heap.size + 1]? = some (.cells #[.int .i64 0, .int .i64 0, .bool false, .slice none 0 0, .slice none 0 0] 34 (0, 0)) := by
    have := blk_new (w.alloc (.cells #[.string nm, .slice A l.length c] 60)) (.cells #[.int .i64 0, .int .i64 0, .bool false, .slice none 0 0, .slice none 0 0] 34)
    have e : (w.alloc (.cells #[.string nm, .slice A l.length c] 60)).heap.size = w.heap.size + 1 := by simp
    rw [e, ← hW0] at this
    exact this
  have HB0 := Lib.hid hb0
  have HS0 := Lib.hid hs0
  have HA0 := Lib.hid hx0
  have HZ0 := Lib.hid hz0
  have HW0 := Lib.hid hW0
  clear hx1 hx2 hy hC hnm hl hb0 hs0 hx0 hz0 hW0
  go_enter Tryz.func98, Tryz.ntmps98
  go_upto_region 2 with (first
    | (go_at_call 119
       rw [← HW0.out]
       with_reducible refine (group_ex none 0 0 W0).mono ?_
       rintro e W1 ⟨rfl, hB1⟩
       have HA1 := Lib.hid (blk_below HA0.out hB1)
       have HZ1 := Lib.hid (blk_below HZ0.out hB1)
       have HB1 := Lib.hid hB1
       clear hB1))
  obtain ⟨W2, hW2⟩ : ∃ W2, W2 = W1.alloc (.cells #[.int .i64 0, .int .i64 17, .bool true, .slice none 0 0, .slice none 0 0] 34) := ⟨_, rfl⟩
  rw [← hW2]
  have hb2 : Below W1.heap.size W1 W2 := by rw [hW2]; exact below_alloc (Below.refl _ _) _
  have HI2 : Hid (Acc W1.heap.size W2 0 17 true (.slice none 0 0) []) := Lib.hid (acc_new (by rw [hW2]; exact blk_new _ _))
  have HA2 := Lib.hid (blk_below HA1.out hb2)
  have HZ2 := Lib.hid (blk_below HZ1.out hb2)
  have HG : Hid (w.heap.size + 2 ≤ W1.heap.size) := Lib.hid (by have := HB1.out.size; have := HS0.out; omega)
  have HB2 : Hid (Below w.heap.size w W2) := Lib.hid ((HB0.out.trans (HB1.out.mono HB0.out.size)).trans (hb2.mono (by have := HG.out; omega)))
  have k1 : W2.cell? ⟨w.heap.size, 1, none⟩ = some (.slice A l.length c) := blk_cell HA2.out 1
  clear hW2 hb2
  obtain ⟨g, hg⟩ : ∃ g, g = W1.heap.size := ⟨_, rfl⟩
  rw [← hg] at HI2 HG ⊢
  clear hg
  go_wp2
  clear k1
  go_loopw [10] (fun i wr => ∃ k : Nat, i = .int .i64 k ∧ k ≤ l.length ∧ Hid (∃ v, Acc g wr 0 17 true v ((l.take k).map tO)) ∧ Hid (Below g W2 wr)) (fun i _ => l.length - (intOf i).toNat)
  case atStart => exact ⟨0, rfl, Nat.zero_le _, Lib.hid ⟨_, HI2.out⟩, Lib.hid (Below.refl _ _)⟩
  case round =>
    obtain ⟨k, rfl, hk, HI3, HBr⟩ := hrel
    obtain ⟨v, HI4⟩ := HI3.out
    have HI := Lib.hid HI4
    clear HI3 HI4
    have HBW : Hid (Below w.heap.size w wr) := Lib.hid (HB2.out.trans (HBr.out.mono (by have := HG.out; omega)))
    by_cases hlt : k < l.length
    · obtain ⟨ad, rfl, hcell⟩ := str_at HC.out hlt
      replace hcell := (HBW.out.cell (World.block_lt_of_cell? w _ hcell)).trans hcell
      have HST : Hid ((l.take k).map tO ++ [tO l[k]] = (l.take (k + 1)).map tO) := Lib.hid (by rw [List.take_succ_eq_append_getElem hlt, List.map_append]; rfl)
      have HLE : Hid ((((l.take k).map tO).length + 1) * 72 ≤ 140737488355328) := Lib.hid (by rw [List.length_map, List.length_take]; omega)
      have HOS := Lib.hid (HO2.out l[k] (List.getElem_mem hlt))
      obtain ⟨s, hs⟩ : ∃ s, s = l[k] := ⟨_, rfl⟩
      obtain ⟨acc, hacc⟩ : ∃ acc, acc = (l.take k).map tO := ⟨_, rfl⟩
      rw [← hs] at hcell HST HOS
      obtain ⟨p, hp⟩ : ∃ p, p = tO s := ⟨_, rfl⟩
      rw [← hp] at HOS HST
      rw [← hacc] at HST HLE HI
      clear hs hacc hp
      go_wp2_with fail
      have s4 : wr.cell? ⟨g, 4, none⟩ = some v := blk_cell HI.out.hg 4
      have hd : Below wr.heap.size wr wr.drew := (Below.refl _ _).drew
      have HI5 := Lib.hid (HI.out.below hd)
      have HB5 : Hid (Below g W2 wr.drew) := Lib.hid (HBr.out.trans (hd.mono (Nat.le_of_lt HI.out.lt)))
      clear hcell hd
      go_region_law (first
        | ((refine Kd.N_append_step k34 (w0 := W6) (W := W6) (g + 1) (by rfl) (.tmp 15) (.tmp 18) 32 34 (.agg #[.int .i64 0, .int .i64 0, .bool false, .slice none 0 0, .slice none 0 0]) 72 (by rfl) Tryz.underlying32 info_sp rfl (show 0 < 5 by decide) (by decide) v acc p _ (fun k => g < k) _ (by rfl) (by rfl) HK6.out (fun _ h => h) HI6.out.fresh HI6.out.row (Below.refl _ _) HI6.out.lt HLE.out ?_
            intro v1 w1 hR hb hg hat
            have x0 : w1.cell? ⟨g, 4, none⟩ = some v := blk_cell (blk_grown HI6.out.hg hg HI6.out.ne) 4
            have xf : w1.frozen? ⟨g, 4, none⟩ = false := blk_frozen (blk_grown HI6.out.hg hg HI6.out.ne) 4
            obtain ⟨Aq, cq, hvq⟩ := Kd.N_slice hR
            have h8 := HI6.out.app hR hg
            have hb8 := HB6.out.trans ((hb.mono (Nat.le_succ g)).setCell (p := ⟨g, 4, none⟩) (Nat.le_refl _) v1)
            obtain ⟨n, hn⟩ : ∃ n, n = (acc ++ [p]).length := ⟨_, rfl⟩
            rw [← hn] at hvq
            subst hvq
            have HI8 := Lib.hid h8
            have HB8 := Lib.hid hb8
            clear hR hb hg hat hn h8 hb8))
        | (go_wp2_with (first
            | (go_at_call 37
               with_reducible refine (HOS.out _).mono ?_
               rintro e W6 h6
               obtain ⟨F3, f3, F4, f4, rfl, hl6, hB6⟩ := h6.open
               have t4 : W6.cell? ⟨g, 4, none⟩ = some v := blk_cell (blk_below HI5.out.hg hB6) 4
               have u4 : ∀ o, (W6.alloc o).cell? ⟨g, 4, none⟩ = some v := fun o => blk_cell (blk_alloc (blk_below HI5.out.hg hB6) o) 4
               have HK6 := Lib.hid (Acc.kid hl6 HI5.out (Nat.le_refl _))
               have HI6 := Lib.hid (HI5.out.below hB6)
               have HB6 := Lib.hid (HB5.out.trans (hB6.mono (Nat.le_of_lt HI5.out.lt)))
               clear h6 hl6 hB6))))
      all_goals (
        go_wp2
        go_roundw
        case rel =>
          first
          | exact ⟨k + 1, by first | rfl | go_num, hlt, Lib.hid ⟨_, by rw [← HST.out]; exact HI8.out⟩, HB8⟩
          | (refine ⟨_, _, _, _, _, _, _, _, _, _, _, _, _, ?_, rfl⟩
             exact ⟨k + 1, by first | rfl | go_num, hlt, Lib.hid ⟨_, by rw [← HST.out]; exact HI8.out⟩, HB8⟩)
        case measure => simp [intOf]; omega)
    · obtain rfl : k = l.length := by omega
      rw [List.take_length] at HI
      obtain ⟨m, hm⟩ : ∃ m, m = l.map tO := ⟨_, rfl⟩
      have hx2 : x2 = ⟨0, 17, true, [], m⟩ := by rw [HX2.out, tSet, hm]
      rw [← hm] at HI
      clear hm
      subst hx2
      obtain ⟨Az, cz, hv, hlz⟩ := HI.out.lies
      subst hv
      go_wp2_with fail
      have hd : Below wr.heap.size wr wr.drew := (Below.refl _ _).drew
      have HI5 := Lib.hid (HI.out.below hd)
      have HLZ := Lib.hid (hlz.below hd)
      have HB5 : Hid (Below w.heap.size w wr.drew) := Lib.hid (HBW.out.trans (hd.mono HBW.out.size))
      have HA5 : Hid (wr.drew.heap[w.heap.size]? = some (.cells #[.string nm, .slice A l.length c] 60 (0, 0))) := Lib.hid (blk_below ((HBr.out.block w.heap.size (by have := HG.out; omega)).trans HA2.out) hd)
      have HZ5 : Hid (wr.drew.heap[w.heap.size + 1]? = some (.cells #[.int .i64 0, .int .i64 0, .bool false, .slice none 0 0, .slice none 0 0] 34 (0, 0))) := Lib.hid (blk_below ((HBr.out.block (w.heap.size + 1) (by have := HG.out; omega)).trans HZ2.out) hd)
      have b0 : wr.drew.cell? ⟨w.heap.size, 0, none⟩ = some (.string nm) := blk_cell HA5.out 0
      have s0 : wr.drew.cell? ⟨g, 0, none⟩ = some (.int .i64 0) := blk_cell HI5.out.hg 0
      have s1 : wr.drew.cell? ⟨g, 1, none⟩ = some (.int .i64 17) := blk_cell HI5.out.hg 1
      have s2 : wr.drew.cell? ⟨g, 2, none⟩ = some (.bool true) := blk_cell HI5.out.hg 2
      have s3 : wr.drew.cell? ⟨g, 3, none⟩ = some (.slice none 0 0) := blk_cell HI5.out.hg 3
      have s4 : wr.drew.cell? ⟨g, 4, none⟩ = some (.slice Az m.length cz) := blk_cell HI5.out.hg 4
      clear hlz hd
      go_region_with (first
        | (go_at_call 37
           with_reducible refine (HO1.out _).mono ?_
           rintro e W6 h6
           obtain ⟨F3, f3, F4, f4, rfl, hl6, hB6⟩ := h6.open
           have u0 : W6.cell? ⟨g, 0, none⟩ = some (.int .i64 0) := blk_cell (blk_below HI5.out.hg hB6) 0
           have u1 : W6.cell? ⟨g, 1, none⟩ = some (.int .i64 17) := blk_cell (blk_below HI5.out.hg hB6) 1
           have u2 : W6.cell? ⟨g, 2, none⟩ = some (.bool true) := blk_cell (blk_below HI5.out.hg hB6) 2
           have u3 : W6.cell? ⟨g, 3, none⟩ = some (.slice none 0 0) := blk_cell (blk_below HI5.out.hg hB6) 3
           have u4 : W6.cell? ⟨g, 4, none⟩ = some (.slice Az m.length cz) := blk_cell (blk_below HI5.out.hg hB6) 4
           have HL6 := Lib.hid (hl6.low (b' := w.heap.size + 2) (by have h1 := HI.out.lt; have h2 := HG.out; show w.heap.size + 2 ≤ wr.drew.heap.size; show w.heap.size + 2 ≤ wr.heap.size; omega))
           have HL26 := Lib.hid ((HLZ.out.low (b' := w.heap.size + 2) (by have h2 := HG.out; omega)).below hB6)
           have HZ6 := Lib.hid (blk_below HZ5.out hB6)
           have HB6 := Lib.hid (HB5.out.trans (hB6.mono HB5.out.size))
           clear h6 hl6 hB6)
        | (go_at_call 34
           obtain ⟨V, hV⟩ : ∃ V, V = W6.alloc (.cells #[.int .i64 x1.f0, .int .i64 x1.f1, .bool x1.f2, .slice F3 x1.f3.length f3, .slice F4 x1.f4.length f4, .int .i64 0, .int .i64 17, .bool true, .slice none 0 0, .slice Az m.length cz] 34) := ⟨_, rfl⟩
           rw [← hV]
           have hbV : Below W6.heap.size W6 V := by rw [hV]; exact below_alloc (Below.refl _ _) _
           have hXV : V.heap[W6.heap.size]? = some (.cells #[.int .i64 x1.f0, .int .i64 x1.f1, .bool x1.f2, .slice F3 x1.f3.length f3, .slice F4 x1.f4.length f4, .int .i64 0, .int .i64 17, .bool true, .slice none 0 0, .slice Az m.length cz] 34 (0, 0)) := by rw [hV]; exact blk_new _ _
           have hsz : w.heap.size + 2 ≤ W6.heap.size := by have h1 := blk_lt HZ6.out; have h2 := HL6.out; have h3 := HB6.out.size; have h4 := HI5.out.lt; have h5 := HG.out; omega
           have hF : Kd.F k34 V (fun k => w.heap.size + 2 ≤ k) (some ⟨W6.heap.size, 0, none⟩) [x1, ⟨0, 17, true, [], m⟩].length [x1, ⟨0, 17, true, [], m⟩] := F2 (x := x1) (y := ⟨0, 17, true, [], m⟩) hXV hsz (HL6.out.below hbV) (HL26.out.below hbV)
           with_reducible refine (HLI.out (some ⟨W6.heap.size, 0, none⟩) 2 V hF (Nat.le_refl _) (Nat.le_trans hsz hbV.size)).mono ?_
           rintro e W7 h7
           obtain ⟨Y3, y3, Y4, y4, rfl, hl7, hB7⟩ := h7.open
           have hb67 := hbV.trans (hB7.mono hbV.size)
           have HL7 := Lib.hid hl7
           have HZ7 := Lib.hid (blk_below HZ6.out hb67)
           have HB7 := Lib.hid (HB6.out.trans (hb67.mono HB6.out.size))
           have k0 : W7.cell? ⟨w.heap.size + 1, 0, none⟩ = some (.int .i64 0) := blk_cell HZ7.out 0
           have k1 : W7.cell? ⟨w.heap.size + 1, 1, none⟩ = some (.int .i64 0) := blk_cell HZ7.out 1
           have k2 : W7.cell? ⟨w.heap.size + 1, 2, none⟩ = some (.bool false) := blk_cell HZ7.out 2
           have k3 : W7.cell? ⟨w.heap.size + 1, 3, none⟩ = some (.slice none 0 0) := blk_cell HZ7.out 3
           have k4 : W7.cell? ⟨w.heap.size + 1, 4, none⟩ = some (.slice none 0 0) := blk_cell HZ7.out 4
           have kf0 := blk_frozen HZ7.out 0
           have kf1 := blk_frozen HZ7.out 1
           have kf2 := blk_frozen HZ7.out 2
           have kf3 := blk_frozen HZ7.out 3
           have kf4 := blk_frozen HZ7.out 4
           clear hV hbV hXV hsz hF h7 hl7 hB7 hb67))
      all_goals (
        go_wp2
        obtain ⟨h5, hend⟩ := nw_end (b := w.heap.size) (B := w.heap.size + 2) (n := w.heap.size + 1) (x := y) HB7.out (Nat.le_succ _) (fun k hk => by omega) (by omega) HZ7.out HL7.out.1 HL7.out.2.1 HL7.out.2.2.1 HL7.out.2.2.2 rfl
        try simp only [Exit.inBlock, Exit.then]
        exact bodyPost_ret (results_c rfl _ _ _ _ _ _ _ rfl h5 Tryz.underlying34 rfl size34) rfl hend)
end Go.Proofs.YteockihoefbmdaaGreatDoor.Ber
namespace Go.Proofs.YteockihoefbmdaaGreatDoor.Ber
open Go.RowKit Go.Proofs.YteockihoefbmdaaGreatDoorW.PrintWords Go.Proofs.YteockihoefbmdaaGreatDoor.PFnEncode Go.Proofs.YteockihoefbmdaaGreatDoor.Tree Go.Proofs.YteockihoefbmdaaGreatDoor.Buf Go.Proofs.YteockihoefbmdaaGreatDoor.Pk Go.Proofs.YteockihoefbmdaaGreatDoor.Within Go.Proofs.YteockihoefbmdaaGreatDoor.Num
set_option linter.unusedVariables false
set_option linter.unusedSimpArgs false
theorem sz_os (m : List ByteArray) : (∀ s, s ∈ m → s.size ≤ 200) → tsizeL (m.map tO) ≤ m.length * 201 := by
  induction m with
  | nil => intro _; simp [tsizeL]
  | cons s m ih =>
    intro h
    have h1 := ih (fun x hx => h x (List.mem_cons_of_mem _ hx))
    have h2 := h s (by simp)
    rw [List.map_cons, tsizeL, List.length_cons]
    simp only [tO, tsize, tsizeL, bytesOf_length]
    omega
/-- a short attribute of the reference's -/
def shortS (a : S60) : Prop := a.f0.size ≤ 200 ∧ a.f1.length ≤ 19 ∧ ∀ s, s ∈ a.f1 → s.size ≤ 200
theorem sz_attr (a : S60) (h : shortS a) : tsize (tAttr a) ≤ 5000 := by
  have h1 := sz_os a.f1 h.2.2
  have h2 := h.2.1
  have h3 := h.1
  simp only [tAttr, tL, tSet, tO, tsize, tsizeL, bytesOf_length, List.length_nil] at h1 ⊢
  omega
theorem sz_as (l : List S60) : (∀ a, a ∈ l → shortS a) → tsizeL (l.map tAttr) ≤ l.length * 5000 := by
  induction l with
  | nil => intro _; simp [tsizeL]
  | cons a l ih =>
    intro h
    have h1 := ih (fun x hx => h x (List.mem_cons_of_mem _ hx))
    have h2 := sz_attr a (h a (by simp))
    rw [List.map_cons, tsizeL, List.length_cons]
    omega
theorem shortS_of {a : S58} (h : shortA a) : shortS (attrOf a) := by
  refine ⟨h.1, by simp [attrOf]; exact h.2.1, fun s hs => ?_⟩
  obtain ⟨x, hx, rfl⟩ := List.mem_map.1 hs
  rw [strOf_size]
  exact h.2.2 x hx
end Go.Proofs.YteockihoefbmdaaGreatDoor.Ber
namespace Go.Proofs.YteockihoefbmdaaGreatDoor.Ber
open Go.RowKit Go.Proofs.YteockihoefbmdaaGreatDoorW.PrintWords Go.Proofs.YteockihoefbmdaaGreatDoorW.PrintLast Go.Proofs.YteockihoefbmdaaGreatDoor.Buf Go.Proofs.YteockihoefbmdaaGreatDoor.Pk Go.Proofs.YteockihoefbmdaaGreatDoor.Tree Go.Proofs.YteockihoefbmdaaGreatDoor.Num Go.Proofs.YteockihoefbmdaaGreatDoor.Ident Go.Proofs.YteockihoefbmdaaGreatDoor.PFnEncode Go.Proofs.YteockihoefbmdaaGreatDoor.Within
set_option linter.unusedVariables false
set_option linter.unusedSimpArgs false

/-- an entry -/
def entT (dn : ByteArray) (m : List S60) : S34 := tOp 4 [tO dn, tL (m.map tAttr)]
/-- an attribute's name and values -/
def prA (a : S60) : ByteArray × List ByteArray := (a.f0, a.f1)
theorem rdL_map (l : List S34) : rdL l = l.map rdPk := by
  induction l with
  | nil => rw [rdL]; rfl
  | cons x xs ih => rw [rdL, ih]; rfl
theorem os_all (m : List ByteArray) : goodL (m.map tO) = true ∧ dpxL (m.map tO) ≤ 1 ∧ kpL (m.map tO) ∧ inBL (plL (m.map tO)) := by
  induction m with
  | nil => exact ⟨by simp [goodL], by simp [dpxL], by simp [kpL], by simp [plL, inBL]⟩
  | cons s m ih =>
    rw [List.map_cons]
    refine ⟨by simp [goodL, tO, good, ih.1], ?_, ?_, ?_⟩
    · simp [dpxL, tO, dpx]
      have := ih.2.1
      omega
    · rw [kpL]
      exact ⟨by simp [tO, kp, kpL], ih.2.2.1⟩
    · rw [plL, inBL]
      refine ⟨?_, ih.2.2.2⟩
      simp only [tO, pl, plL, inB, inBL]
      exact ⟨bo_in s, trivial⟩
theorem as_all (m : List S60) : goodL (m.map tAttr) = true ∧ dpxL (m.map tAttr) ≤ 4 ∧ kpL (m.map tAttr) ∧ inBL (plL (m.map tAttr)) := by
  induction m with
  | nil => exact ⟨by simp [goodL], by simp [dpxL], by simp [kpL], by simp [plL, inBL]⟩
  | cons a m ih =>
    have ho := os_all a.f1
    rw [List.map_cons]
    refine ⟨?_, ?_, ?_, ?_⟩
    · have h1 := ho.1
      have h2 := ih.1
      simp [goodL, tAttr, tL, tSet, good, tO, h2] at h1 ⊢
      exact h1
    · have h1 := ho.2.1
      have h2 := ih.2.1
      rw [dpxL]
      have h3 : dpx (tAttr a) ≤ 4 := by
        simp only [tAttr, tL, tSet, dpx, dpxL, tO] at h1 ⊢
        omega
      omega
    · rw [kpL]
      refine ⟨?_, ih.2.2.1⟩
      simp only [tAttr, tL, tSet, kp, kpL]
      refine ⟨fun _ h => absurd h (by simp), fun _ _ => .inl trivial, ?_, ⟨fun _ h => absurd h (by simp), fun _ _ => .inr trivial, ho.2.2.1⟩, trivial⟩
      simp [tO, kp, kpL]
    · rw [plL, inBL]
      refine ⟨?_, ih.2.2.2⟩
      have h4 := ho.2.2.2
      simp only [tAttr, tL, tSet, pl, plL, inB, inBL]
      refine ⟨fun y hy => absurd hy List.not_mem_nil, ?_, ⟨fun y hy => absurd hy List.not_mem_nil, h4⟩, trivial⟩
      simp only [tO, pl, plL, inB, inBL]
      exact ⟨bo_in _, trivial⟩
theorem entT_fine (dn : ByteArray) (m : List S60) (hdn : dn.size ≤ 1000) (hm : m.length ≤ 10) (hs : ∀ a, a ∈ m → shortS a) : Fine5 (entT dn m) := by
  have ha := as_all m
  have hz := sz_as m hs
  have b1 := bytesOf_length dn
  refine ⟨?_, ?_, ?_, ?_, ?_⟩
  · simp [entT, tOp, tL, tO, good, goodL, ha.1]
  · simp only [entT, tOp, tL, tO, tsize, tsizeL, List.length_nil, b1]
    omega
  · have h2 := ha.2.1
    simp only [entT, tOp, tL, tO, dpx, dpxL]
    omega
  · simp only [entT, tOp, tL, kp, kpL]
    refine ⟨fun h => absurd h (by decide), fun h => absurd h (by decide), ?_, ⟨fun _ h => absurd h (by simp), fun _ _ => .inl trivial, ha.2.2.1⟩, trivial⟩
    simp [tO, kp, kpL]
  · simp only [entT, tOp, tL, pl, plL, inB, inBL]
    refine ⟨fun y hy => absurd hy List.not_mem_nil, ?_, ⟨fun y hy => absurd hy List.not_mem_nil, ha.2.2.2⟩, trivial⟩
    simp only [tO, pl, plL, inB, inBL]
    exact ⟨bo_in _, trivial⟩
theorem val_tO (s : ByteArray) : (rdPk (tO s)).val = strV s := by
  simp [tO, rdPk, valOf, so_bo]
theorem attr_is (a : S60) (h : a.f1.length ≤ 1000000) : IsAttr (rdPk (tAttr a)) (rdPk (tO a.f0)) (rdPk (tSet a.f1)) (prA a) := by
  have hk : (rdPk (tAttr a)).kids = [rdPk (tO a.f0), rdPk (tSet a.f1)] := by simp [tAttr, tL, rdPk, rdL]
  have hk2 : (rdPk (tSet a.f1)).kids = (a.f1.map tO).map rdPk := by simp [tSet, rdPk, rdL_map]
  refine ⟨by rw [hk]; rfl, by rw [hk]; rfl, by rw [hk]; simp, val_tO _, ?_, ?_, ?_⟩
  · rw [hk2, List.length_map, List.length_map]; rfl
  · rw [hk2, List.length_map, List.length_map]; exact h
  · intro j z s h1 h2
    have h2' : a.f1[j]? = some s := h2
    rw [hk2, List.getElem?_map, List.getElem?_map, h2'] at h1
    injection h1 with h1
    rw [← h1]
    exact val_tO s
theorem ent_is (dn : ByteArray) (m : List S60) (hm : m.length ≤ 1000) (hs : ∀ a, a ∈ m → shortS a) : IsEnt (rdPk (entT dn m)) (rdPk (tO dn)) (rdPk (tL (m.map tAttr))) dn (m.map prA) := by
  have hk : (rdPk (entT dn m)).kids = [rdPk (tO dn), rdPk (tL (m.map tAttr))] := by simp [entT, tOp, rdPk, rdL]
  have hk2 : (rdPk (tL (m.map tAttr))).kids = (m.map tAttr).map rdPk := by simp [tL, rdPk, rdL_map]
  refine ⟨by rw [hk]; rfl, by rw [hk]; rfl, by rw [hk]; simp, val_tO _, ?_, ?_, ?_⟩
  · rw [hk2, List.length_map, List.length_map, List.length_map]
  · rw [hk2, List.length_map, List.length_map]; omega
  · intro j z a h1 h2
    rw [hk2, List.getElem?_map, List.getElem?_map] at h1
    rw [List.getElem?_map] at h2
    cases hj : m[j]? with
    | none => rw [hj] at h2; simp at h2
    | some y =>
      rw [hj] at h1 h2
      injection h1 with h1
      injection h2 with h2
      subst h1
      subst h2
      have hy := hs y (List.mem_of_getElem? hj)
      exact ⟨_, _, attr_is y (by have := hy.2.1; omega)⟩
theorem entry_x (x : S34) (Fx : Fine5 x) {n0 y : Pk} {dn : ByteArray} {l : List (ByteArray × List ByteArray)} (E : IsEnt (rdPk x) n0 y dn l) (hsz : ∀ a, a ∈ l → ∀ s, s ∈ a.2 → s.size ≤ 1000000) (hnv : ∀ a, a ∈ l → a.2.length ≤ 1000000) (w : World) (A3 : Option Addr) (c3 : Nat) (A4 : Option Addr) (c4 : Nat) (h3 : B8.C w A3 x.f3.length x.f3) (h4 : k30.C w A4 (plL x.f4).length (plL x.f4)) (va ua : Addr) (hE : EofAt w va ua) :
    Calls Tryz.prog 20 #[.agg #[.int .i64 x.f0, .int .i64 x.f1, .bool x.f2, .slice A3 x.f3.length c3, .slice A4 (plL x.f4).length c4]] w fun e w' => ∃ A5 d5, e = .returned (.tuple #[.string dn, .slice A5 l.length d5, .bool true]) ∧ l.length ≤ d5 ∧ Kd.C k58 w' A5 l.length (l.map aS) ∧ Below w.heap.size w w' := by
  have key := entry_i w (pl x) A3 c3 A4 c4 (x := rdPk x) E hsz hnv (fun W hW => by
    rw [pl_f0, pl_f1, pl_f2, pl_f3, pl_f4]
    exact read_pl x Fx w W A3 c3 A4 c4 h3 h4 hW va ua (eof_below hE hW))
  rw [pl_f0, pl_f1, pl_f2, pl_f3, pl_f4] at key
  exact key
end Go.Proofs.YteockihoefbmdaaGreatDoor.Ber
namespace Go.Proofs.YteockihoefbmdaaGreatDoor.Ber
open Go.RowKit Go.Proofs.YteockihoefbmdaaGreatDoorW.PrintWords Go.Proofs.YteockihoefbmdaaGreatDoor.PFnEncode Go.Proofs.YteockihoefbmdaaGreatDoor.Tree Go.Proofs.YteockihoefbmdaaGreatDoor.Buf Go.Proofs.YteockihoefbmdaaGreatDoor.Pk Go.Proofs.YteockihoefbmdaaGreatDoor.Within Go.Proofs.YteockihoefbmdaaGreatDoor.Num
set_option linter.unusedVariables false
set_option linter.unusedSimpArgs false
set_option maxHeartbeats 3200000 in
set_option maxRecDepth 100000 in
theorem sAdd_nw (dn : ByteArray) (l : List S60) (A : Option Addr) (c : Nat) (w : World) (hC : Kd.C k60 w A l.length l) (hdn : dn.size ≤ 1000000) (hl : ∀ a, a ∈ l → okA a) (hn : l.length ≤ 1000) :
    Calls Tryz.prog 52 #[.string dn, .slice A l.length c] w (Nw w.heap.size w (tOp 8 [tO dn, tL (l.map tAttr)])) := by
  have HC := Lib.hid hC
  have HEL := Lib.hid hl
  have HO1 : Hid (∀ W, Calls Tryz.prog 37 #[.string dn] W (Nw W.heap.size W (tO dn))) := Lib.hid (fun W => octets_nw dn W (by omega))
  have HLI : Hid (∀ (A : Option Addr) (cc : Nat) (W : World), Kd.F k34 W (fun k => w.heap.size + 1 ≤ k) A [tO dn, tL (l.map tAttr)].length [tO dn, tL (l.map tAttr)] → 2 ≤ cc → w.heap.size + 1 ≤ W.heap.size → Calls Tryz.prog 53 #[.int .i64 8, .slice A 2 cc] W (Nw (w.heap.size + 1) W (tOp 8 [tO dn, tL (l.map tAttr)]))) :=
    Lib.hid (fun A cc W h1 h2 h3 => operation_nw 8 [tO dn, tL (l.map tAttr)] A cc W h1 h2 h3)
  obtain ⟨x1, hx1⟩ : ∃ x, x = tO dn := ⟨_, rfl⟩
  obtain ⟨x2, hx2⟩ : ∃ x, x = tL (l.map tAttr) := ⟨_, rfl⟩
  obtain ⟨y, hy⟩ : ∃ y, y = tOp 8 [tO dn, tL (l.map tAttr)] := ⟨_, rfl⟩
  rw [← hy] at HLI ⊢
  rw [← hx1] at HO1 HLI
  rw [← hx2] at HLI
  have HX2 := Lib.hid hx2
  obtain ⟨W0, hW0⟩ : ∃ W0, W0 = w.alloc (.cells #[.int .i64 0, .int .i64 0, .bool false, .slice none 0 0, .slice none 0 0] 34) := ⟨_, rfl⟩
  have hb0 : Below w.heap.size w W0 := by rw [hW0]; exact below_alloc (Below.refl _ _) _
  have hs0 : W0.heap.size = w.heap.size + 1 := by rw [hW0]; simp
  have HB0 := Lib.hid hb0
  have HS0 := Lib.hid hs0
  have HZ0 : Hid (W0.heap[w.heap.size]? = some (.cells #[.int .i64 0, .int .i64 0, .bool false, .slice none 0 0, .slice none 0 0] 34 (0, 0))) := Lib.hid (by rw [hW0]; exact blk_new _ _)
  have HW0 := Lib.hid hW0
  clear hx1 hx2 hy hC hdn hl hb0 hs0 hW0
  go_enter Tryz.func52, Tryz.ntmps52
  go_upto_region 2 with (first
    | (go_at_call 34
       rw [← HW0.out]
       with_reducible refine (list_ex none 0 0 W0).mono ?_
       rintro e W1 ⟨rfl, hB1⟩
       have HZ1 := Lib.hid (blk_below HZ0.out hB1)
       have HB1 := Lib.hid hB1
       clear hB1))
  obtain ⟨W2, hW2⟩ : ∃ W2, W2 = W1.alloc (.cells #[.int .i64 0, .int .i64 16, .bool true, .slice none 0 0, .slice none 0 0] 34) := ⟨_, rfl⟩
  rw [← hW2]
  have hb2 : Below W1.heap.size W1 W2 := by rw [hW2]; exact below_alloc (Below.refl _ _) _
  have HI2 : Hid (Acc W1.heap.size W2 0 16 true (.slice none 0 0) []) := Lib.hid (acc_new (by rw [hW2]; exact blk_new _ _))
  have HZ2 := Lib.hid (blk_below HZ1.out hb2)
  have HG : Hid (w.heap.size + 1 ≤ W1.heap.size) := Lib.hid (by have := HB1.out.size; have := HS0.out; omega)
  have HB2 : Hid (Below w.heap.size w W2) := Lib.hid ((HB0.out.trans (HB1.out.mono HB0.out.size)).trans (hb2.mono (by have := HG.out; omega)))
  clear hW2 hb2
  obtain ⟨g, hg⟩ : ∃ g, g = W1.heap.size := ⟨_, rfl⟩
  rw [← hg] at HI2 HG ⊢
  clear hg
  go_wp2
  go_loopw [11] (fun i wr => ∃ k : Nat, i = .int .i64 k ∧ k ≤ l.length ∧ Hid (∃ v, Acc g wr 0 16 true v ((l.take k).map tAttr)) ∧ Hid (Below g W2 wr)) (fun i _ => l.length - (intOf i).toNat)
  case atStart => exact ⟨0, rfl, Nat.zero_le _, Lib.hid ⟨_, HI2.out⟩, Lib.hid (Below.refl _ _)⟩
  case round =>
    obtain ⟨k, rfl, hk, HI3, HBr⟩ := hrel
    obtain ⟨v, HI4⟩ := HI3.out
    have HI := Lib.hid HI4
    clear HI3 HI4
    have HBW : Hid (Below w.heap.size w wr) := Lib.hid (HB2.out.trans (HBr.out.mono (by have := HG.out; omega)))
    by_cases hlt : k < l.length
    · obtain ⟨ad, A1, c1, rfl, e0, e1, l1, g1⟩ := at_T60 HC.out (k : Int) (by omega) (by omega)
      have hrd : rd_T60 l (k : Int) = l[k] := by
        rw [rd_T60, Int.toNat_natCast, List.getD_eq_getElem?_getD, List.getElem?_eq_getElem hlt]
        rfl
      rw [hrd] at e0 e1 l1 g1
      rw [Int.toNat_natCast] at e0 e1
      replace e0 := (HBW.out.cell (World.block_lt_of_cell? w _ e0)).trans e0
      replace e1 := (HBW.out.cell (World.block_lt_of_cell? w _ e1)).trans e1
      have HST : Hid ((l.take k).map tAttr ++ [tAttr l[k]] = (l.take (k + 1)).map tAttr) := Lib.hid (by rw [List.take_succ_eq_append_getElem hlt, List.map_append]; rfl)
      have HLE : Hid ((((l.take k).map tAttr).length + 1) * 72 ≤ 140737488355328) := Lib.hid (by rw [List.length_map, List.length_take]; omega)
      have HOK := Lib.hid (HEL.out l[k] (List.getElem_mem hlt))
      obtain ⟨s, hs⟩ : ∃ s, s = l[k] := ⟨_, rfl⟩
      obtain ⟨acc, hacc⟩ : ∃ acc, acc = (l.take k).map tAttr := ⟨_, rfl⟩
      rw [← hs] at e0 e1 l1 g1 HST HOK
      rw [← hacc] at HST HLE HI
      have HG1 := Lib.hid (Kd.C_below g1 HBW.out)
      clear hrd hs hacc g1 l1
      have HLS : Hid (∀ W, Kd.string.C W A1 s.f1.length s.f1 → Calls Tryz.prog 98 #[.agg #[.string s.f0, .slice A1 s.f1.length c1]] W (Nw W.heap.size W (tAttr s))) := Lib.hid (fun W h => listed_nw s A1 c1 W h HOK.out.1 HOK.out.2.1 HOK.out.2.2)
      obtain ⟨p, hp⟩ : ∃ p, p = tAttr s := ⟨_, rfl⟩
      rw [← hp] at HST HLS
      clear hp
      go_wp2_with fail
      obtain ⟨W5, hW5⟩ : ∃ W5, W5 = wr.alloc (.cells #[.string s.f0, .slice A1 s.f1.length c1] 60) := ⟨_, rfl⟩
      rw [← hW5]
      have hb5 : Below wr.heap.size wr W5 := by rw [hW5]; exact below_alloc (Below.refl _ _) _
      have hx5 : W5.heap[wr.heap.size]? = some (.cells #[.string s.f0, .slice A1 s.f1.length c1] 60 (0, 0)) := by rw [hW5]; exact blk_new _ _
      have hd5 : Below W5.heap.size W5 W5.drew := (Below.refl _ _).drew
      have hbd := hb5.trans (hd5.mono hb5.size)
      have HX5 : Hid (W5.drew.heap[wr.heap.size]? = some (.cells #[.string s.f0, .slice A1 s.f1.length c1] 60 (0, 0))) := Lib.hid (blk_below hx5 hd5)
      have HI5 := Lib.hid (HI.out.below hbd)
      have HB5 : Hid (Below g W2 W5.drew) := Lib.hid (HBr.out.trans (hbd.mono (Nat.le_of_lt HI.out.lt)))
      have s4 : W5.drew.cell? ⟨g, 4, none⟩ = some v := blk_cell HI5.out.hg 4
      have r0 : W5.drew.cell? ⟨wr.heap.size, 0, none⟩ = some (.string s.f0) := blk_cell HX5.out 0
      have r1 : W5.drew.cell? ⟨wr.heap.size, 1, none⟩ = some (.slice A1 s.f1.length c1) := blk_cell HX5.out 1
      have HG5 := Lib.hid (Kd.C_below HG1.out hbd)
      clear hW5 hb5 hx5 hd5 hbd
      go_region_law (first
        | ((refine Kd.N_append_step k34 (w0 := W8) (W := W8) (g + 1) (by rfl) (.tmp 16) (.tmp 19) 32 34 (.agg #[.int .i64 0, .int .i64 0, .bool false, .slice none 0 0, .slice none 0 0]) 72 (by rfl) Tryz.underlying32 info_sp rfl (show 0 < 5 by decide) (by decide) v acc p _ (fun k => g < k) _ (by rfl) (by rfl) HK8.out (fun _ h => h) HI8.out.fresh HI8.out.row (Below.refl _ _) HI8.out.lt HLE.out ?_
            intro v1 w1 hR hb hg hat
            have x0 : w1.cell? ⟨g, 4, none⟩ = some v := blk_cell (blk_grown HI8.out.hg hg HI8.out.ne) 4
            have xf : w1.frozen? ⟨g, 4, none⟩ = false := blk_frozen (blk_grown HI8.out.hg hg HI8.out.ne) 4
            obtain ⟨Aq, cq, hvq⟩ := Kd.N_slice hR
            have h8 := HI8.out.app hR hg
            have hb8 := HB8.out.trans ((hb.mono (Nat.le_succ g)).setCell (p := ⟨g, 4, none⟩) (Nat.le_refl _) v1)
            obtain ⟨n, hn⟩ : ∃ n, n = (acc ++ [p]).length := ⟨_, rfl⟩
            rw [← hn] at hvq
            subst hvq
            have HI9 := Lib.hid h8
            have HB9 := Lib.hid hb8
            clear hR hb hg hat hn h8 hb8))
        | (go_wp2_with (first
          | (go_at_call 98
             with_reducible refine (HLS.out W5.drew HG5.out).mono ?_
             rintro e W8 h6
             obtain ⟨F3, f3, F4, f4, rfl, hl6, hB6⟩ := h6.open
             have t4 : W8.cell? ⟨g, 4, none⟩ = some v := blk_cell (blk_below HI5.out.hg hB6) 4
             have u4 : ∀ o, (W8.alloc o).cell? ⟨g, 4, none⟩ = some v := fun o => blk_cell (blk_alloc (blk_below HI5.out.hg hB6) o) 4
             have HK8 := Lib.hid (Acc.kid hl6 HI5.out (Nat.le_refl _))
             have HI8 := Lib.hid (HI5.out.below hB6)
             have HB8 := Lib.hid (HB5.out.trans (hB6.mono (Nat.le_of_lt HI5.out.lt)))
             clear h6 hl6 hB6))))
      all_goals (
        go_wp2
        go_roundw
        case rel =>
          first
          | exact ⟨k + 1, by first | rfl | go_num, hlt, Lib.hid ⟨_, by rw [← HST.out]; exact HI9.out⟩, HB9⟩
          | (refine ⟨_, _, _, _, _, _, _, _, _, _, _, _, _, ?_, rfl⟩
             exact ⟨k + 1, by first | rfl | go_num, hlt, Lib.hid ⟨_, by rw [← HST.out]; exact HI9.out⟩, HB9⟩)
        case measure => simp [intOf]; omega)
    · obtain rfl : k = l.length := by omega
      rw [List.take_length] at HI
      obtain ⟨m, hm⟩ : ∃ m, m = l.map tAttr := ⟨_, rfl⟩
      have hx2 : x2 = ⟨0, 16, true, [], m⟩ := by rw [HX2.out, tL, hm]
      rw [← hm] at HI
      clear hm
      subst hx2
      obtain ⟨Az, cz, hv, hlz⟩ := HI.out.lies
      subst hv
      go_wp2_with fail
      have hd : Below wr.heap.size wr wr.drew := (Below.refl _ _).drew
      have HI5 := Lib.hid (HI.out.below hd)
      have HLZ := Lib.hid (hlz.below hd)
      have HB5 : Hid (Below w.heap.size w wr.drew) := Lib.hid (HBW.out.trans (hd.mono HBW.out.size))
      have HZ5 : Hid (wr.drew.heap[w.heap.size]? = some (.cells #[.int .i64 0, .int .i64 0, .bool false, .slice none 0 0, .slice none 0 0] 34 (0, 0))) := Lib.hid (blk_below ((HBr.out.block w.heap.size (by have := HG.out; omega)).trans HZ2.out) hd)
      have s0 : wr.drew.cell? ⟨g, 0, none⟩ = some (.int .i64 0) := blk_cell HI5.out.hg 0
      have s1 : wr.drew.cell? ⟨g, 1, none⟩ = some (.int .i64 16) := blk_cell HI5.out.hg 1
      have s2 : wr.drew.cell? ⟨g, 2, none⟩ = some (.bool true) := blk_cell HI5.out.hg 2
      have s3 : wr.drew.cell? ⟨g, 3, none⟩ = some (.slice none 0 0) := blk_cell HI5.out.hg 3
      have s4 : wr.drew.cell? ⟨g, 4, none⟩ = some (.slice Az m.length cz) := blk_cell HI5.out.hg 4
      clear hlz hd
      go_region_with (first
        | (go_at_call 37
           with_reducible refine (HO1.out _).mono ?_
           rintro e W6 h6
           obtain ⟨F3, f3, F4, f4, rfl, hl6, hB6⟩ := h6.open
           have u0 : W6.cell? ⟨g, 0, none⟩ = some (.int .i64 0) := blk_cell (blk_below HI5.out.hg hB6) 0
           have u1 : W6.cell? ⟨g, 1, none⟩ = some (.int .i64 16) := blk_cell (blk_below HI5.out.hg hB6) 1
           have u2 : W6.cell? ⟨g, 2, none⟩ = some (.bool true) := blk_cell (blk_below HI5.out.hg hB6) 2
           have u3 : W6.cell? ⟨g, 3, none⟩ = some (.slice none 0 0) := blk_cell (blk_below HI5.out.hg hB6) 3
           have u4 : W6.cell? ⟨g, 4, none⟩ = some (.slice Az m.length cz) := blk_cell (blk_below HI5.out.hg hB6) 4
           have HL6 := Lib.hid (hl6.low (b' := w.heap.size + 1) (by have h1 := HI.out.lt; have h2 := HG.out; show w.heap.size + 1 ≤ wr.heap.size; omega))
           have HL26 := Lib.hid ((HLZ.out.low (b' := w.heap.size + 1) (by have h2 := HG.out; omega)).below hB6)
           have HZ6 := Lib.hid (blk_below HZ5.out hB6)
           have HB6 := Lib.hid (HB5.out.trans (hB6.mono HB5.out.size))
           clear h6 hl6 hB6)
        | (go_at_call 53
           obtain ⟨V, hV⟩ : ∃ V, V = W6.alloc (.cells #[.int .i64 x1.f0, .int .i64 x1.f1, .bool x1.f2, .slice F3 x1.f3.length f3, .slice F4 x1.f4.length f4, .int .i64 0, .int .i64 16, .bool true, .slice none 0 0, .slice Az m.length cz] 34) := ⟨_, rfl⟩
           rw [← hV]
           have hbV : Below W6.heap.size W6 V := by rw [hV]; exact below_alloc (Below.refl _ _) _
           have hXV : V.heap[W6.heap.size]? = some (.cells #[.int .i64 x1.f0, .int .i64 x1.f1, .bool x1.f2, .slice F3 x1.f3.length f3, .slice F4 x1.f4.length f4, .int .i64 0, .int .i64 16, .bool true, .slice none 0 0, .slice Az m.length cz] 34 (0, 0)) := by rw [hV]; exact blk_new _ _
           have hsz : w.heap.size + 1 ≤ W6.heap.size := by have h1 := blk_lt HZ6.out; omega
           have hF : Kd.F k34 V (fun k => w.heap.size + 1 ≤ k) (some ⟨W6.heap.size, 0, none⟩) [x1, ⟨0, 16, true, [], m⟩].length [x1, ⟨0, 16, true, [], m⟩] := F2 (x := x1) (y := ⟨0, 16, true, [], m⟩) hXV hsz (HL6.out.below hbV) (HL26.out.below hbV)
           with_reducible refine (HLI.out (some ⟨W6.heap.size, 0, none⟩) 2 V hF (Nat.le_refl _) (Nat.le_trans hsz hbV.size)).mono ?_
           rintro e W7 h7
           obtain ⟨Y3, y3, Y4, y4, rfl, hl7, hB7⟩ := h7.open
           have hb67 := hbV.trans (hB7.mono hbV.size)
           have HL7 := Lib.hid hl7
           have HZ7 := Lib.hid (blk_below HZ6.out hb67)
           have HB7 := Lib.hid (HB6.out.trans (hb67.mono HB6.out.size))
           have k0 : W7.cell? ⟨w.heap.size, 0, none⟩ = some (.int .i64 0) := blk_cell HZ7.out 0
           have k1 : W7.cell? ⟨w.heap.size, 1, none⟩ = some (.int .i64 0) := blk_cell HZ7.out 1
           have k2 : W7.cell? ⟨w.heap.size, 2, none⟩ = some (.bool false) := blk_cell HZ7.out 2
           have k3 : W7.cell? ⟨w.heap.size, 3, none⟩ = some (.slice none 0 0) := blk_cell HZ7.out 3
           have k4 : W7.cell? ⟨w.heap.size, 4, none⟩ = some (.slice none 0 0) := blk_cell HZ7.out 4
           have kf0 := blk_frozen HZ7.out 0
           have kf1 := blk_frozen HZ7.out 1
           have kf2 := blk_frozen HZ7.out 2
           have kf3 := blk_frozen HZ7.out 3
           have kf4 := blk_frozen HZ7.out 4
           clear hV hbV hXV hsz hF h7 hl7 hB7 hb67))
      all_goals (
        go_wp2
        obtain ⟨h5, hend⟩ := nw_end (b := w.heap.size) (B := w.heap.size + 1) (n := w.heap.size) (x := y) HB7.out (Nat.le_refl _) (fun k hk => by omega) (by omega) HZ7.out HL7.out.1 HL7.out.2.1 HL7.out.2.2.1 HL7.out.2.2.2 rfl
        try simp only [Exit.inBlock, Exit.then]
        exact bodyPost_ret (results_c rfl _ _ _ _ _ _ _ rfl h5 Tryz.underlying34 rfl size34) rfl hend)
end Go.Proofs.YteockihoefbmdaaGreatDoor.Ber
namespace Go.Proofs.YteockihoefbmdaaGreatDoor.Ber
open Go.RowKit Go.Proofs.YteockihoefbmdaaGreatDoorW.PrintWords Go.Proofs.YteockihoefbmdaaGreatDoorW.PrintLast Go.Proofs.YteockihoefbmdaaGreatDoor.Buf Go.Proofs.YteockihoefbmdaaGreatDoor.Pk Go.Proofs.YteockihoefbmdaaGreatDoor.Tree Go.Proofs.YteockihoefbmdaaGreatDoor.Num Go.Proofs.YteockihoefbmdaaGreatDoor.Ident Go.Proofs.YteockihoefbmdaaGreatDoor.PFnEncode Go.Proofs.YteockihoefbmdaaGreatDoor.Within
set_option linter.unusedVariables false
set_option linter.unusedSimpArgs false

set_option maxHeartbeats 3200000 in
set_option maxRecDepth 100000 in
theorem sEnt_nw (dn : ByteArray) (l : List S60) (A : Option Addr) (c : Nat) (w : World) (hC : Kd.C k60 w A l.length l) (hdn : dn.size ≤ 1000000) (hl : ∀ a, a ∈ l → okA a) (hn : l.length ≤ 1000) :
    Calls Tryz.prog 21 #[.string dn, .slice A l.length c] w (Nw w.heap.size w (tOp 4 [tO dn, tL (l.map tAttr)])) := by
  obtain ⟨W0, hW0⟩ : ∃ W0, W0 = w.alloc (.cells #[.int .i64 0, .int .i64 0, .bool false, .slice none 0 0, .slice none 0 0] 34) := ⟨_, rfl⟩
  have hb0 : Below w.heap.size w W0 := by rw [hW0]; exact below_alloc (Below.refl _ _) _
  have HAD := Lib.hid (sAdd_nw dn l A c W0 (Kd.C_below hC hb0) hdn hl hn)
  obtain ⟨y8, hy8⟩ : ∃ y, y = tOp 8 [tO dn, tL (l.map tAttr)] := ⟨_, rfl⟩
  have hy : tOp 4 [tO dn, tL (l.map tAttr)] = (⟨y8.f0, 4, y8.f2, y8.f3, y8.f4⟩ : S34) := by rw [hy8]; rfl
  rw [hy]
  rw [← hy8] at HAD
  have HB0 := Lib.hid hb0
  have HS0 : Hid (W0.heap.size = w.heap.size + 1) := Lib.hid (by rw [hW0]; simp)
  have HZ0 : Hid (W0.heap[w.heap.size]? = some (.cells #[.int .i64 0, .int .i64 0, .bool false, .slice none 0 0, .slice none 0 0] 34 (0, 0))) := Lib.hid (by rw [hW0]; exact blk_new _ _)
  have HW0 := Lib.hid hW0
  clear hC hl hW0 hb0 hy8 hy
  go_enter Tryz.func21, Tryz.ntmps21
  go_wp2_with (go_at_call 52
               rw [← HW0.out]
               with_reducible refine HAD.out.mono ?_
               rintro e W1 h1
               obtain ⟨A3, c3, A4, c4, rfl, hl1, hB1⟩ := h1.open
               have HL1 := Lib.hid hl1
               have HB1 := Lib.hid (HB0.out.trans (hB1.mono HB0.out.size))
               have HS1 : Hid (w.heap.size + 1 ≤ W1.heap.size) := Lib.hid (by have h2 := hB1.size; have h3 := HS0.out; omega)
               have hz1 := blk_below HZ0.out hB1
               have HZ1 := Lib.hid hz1
               have hz3 : (W1.alloc (.cells #[.int .i64 y8.f0, .int .i64 4, .bool y8.f2, .slice A3 y8.f3.length c3, .slice A4 y8.f4.length c4] 34)).heap[w.heap.size]? = some (.cells #[.int .i64 0, .int .i64 0, .bool false, .slice none 0 0, .slice none 0 0] 34 (0, 0)) := blk_alloc hz1 _
               have HZ3 := Lib.hid hz3
               have k0 := blk_cell hz3 0
               have k1 := blk_cell hz3 1
               have k2 := blk_cell hz3 2
               have k3 := blk_cell hz3 3
               have k4 := blk_cell hz3 4
               have kf0 := blk_frozen hz3 0
               have kf1 := blk_frozen hz3 1
               have kf2 := blk_frozen hz3 2
               have kf3 := blk_frozen hz3 3
               have kf4 := blk_frozen hz3 4
               clear h1 hl1 hB1 hz1 hz3)
  have HL3 : Hid (Lies (w.heap.size + 1) (W1.alloc (.cells #[.int .i64 y8.f0, .int .i64 4, .bool y8.f2, .slice A3 y8.f3.length c3, .slice A4 y8.f4.length c4] 34)) y8 A3 c3 A4 c4) := Lib.hid (by
    have hl := HL1.out.low (b' := w.heap.size + 1) (by have := HS0.out; omega)
    have step : ∀ k, k < W1.heap.size → (W1.alloc (.cells #[.int .i64 y8.f0, .int .i64 4, .bool y8.f2, .slice A3 y8.f3.length c3, .slice A4 y8.f4.length c4] 34)).heap[k]? = W1.heap[k]? := fun k hk => Below.heap_alloc W1 _ k hk
    exact ⟨hl.1, Kd.F_step hl.2.1 (fun k _ hk => step k hk), hl.2.2.1, Kd.F_step hl.2.2.2 (fun k _ hk => step k hk)⟩)
  have HB3 : Hid (Below w.heap.size w (W1.alloc (.cells #[.int .i64 y8.f0, .int .i64 4, .bool y8.f2, .slice A3 y8.f3.length c3, .slice A4 y8.f4.length c4] 34))) := Lib.hid (below_alloc HB1.out _)
  obtain ⟨h5, hend⟩ := nw_end (b := w.heap.size) (B := w.heap.size + 1) (n := w.heap.size) (x := ⟨y8.f0, 4, y8.f2, y8.f3, y8.f4⟩) HB3.out (Nat.le_refl _) (fun k hk => by omega) (Nat.le_succ _) HZ3.out HL3.out.1 HL3.out.2.1 HL3.out.2.2.1 HL3.out.2.2.2 rfl
  try simp only [Exit.inBlock, Exit.then]
  exact bodyPost_ret (results_c rfl _ _ _ _ _ _ _ rfl h5 Tryz.underlying34 rfl size34) rfl hend
end Go.Proofs.YteockihoefbmdaaGreatDoor.Ber
namespace Go.Proofs.YteockihoefbmdaaGreatDoor.Ber
open Go.RowKit Go.Proofs.YteockihoefbmdaaGreatDoorW.PrintWords Go.Proofs.YteockihoefbmdaaGreatDoor.PFnEncode Go.Proofs.YteockihoefbmdaaGreatDoor.Tree Go.Proofs.YteockihoefbmdaaGreatDoor.Buf Go.Proofs.YteockihoefbmdaaGreatDoor.Pk Go.Proofs.YteockihoefbmdaaGreatDoor.Within Go.Proofs.YteockihoefbmdaaGreatDoor.Num
set_option linter.unusedVariables false
set_option linter.unusedSimpArgs false

theorem fits13_l0 (l : List S58) (hl : l.length ≤ 2147483647) : ∀ (n j : Nat), j + n = l.length → ∃ k b, laws_zzFits13.l0 k l (l.length : Int) (j : Int) = some b ∧ (b = true → ∀ a, a ∈ l.drop j → fitA a) := by
  intro n
  induction n with
  | zero =>
    intro j hj
    refine ⟨1, true, by rw [laws_zzFits13.l0, if_neg (by omega)], fun _ a ha => ?_⟩
    rw [List.drop_eq_nil_of_le (by omega)] at ha
    exact absurd ha (by simp)
  | succ n ih =>
    intro j hj
    have hlt : j < l.length := by omega
    have e : wrap64 ((j : Int) + 1) = ((j + 1 : Nat) : Int) := by unfold wrap64; omega
    obtain ⟨k1, b1, h1, i1⟩ := fits11_ends l[j].f0 l[j].f1
    obtain ⟨k2, b2, h2, i2⟩ := ih (j + 1) (by omega)
    have h1' := at_rounds (laws_zzFits11.mono _ _) (Nat.le_max_left k1 k2) h1
    have h2' := at_rounds (fun k => (laws_zzFits13.mono_l k) _ _ _) (Nat.le_max_right k1 k2) h2
    cases b1 with
    | false =>
      refine ⟨max k1 k2 + 1, false, ?_, fun h => absurd h (by decide)⟩
      rw [laws_zzFits13.l0, if_pos (by omega), if_pos (by omega), if_pos (by omega), rd_T_at hlt, h1']
      rfl
    | true =>
      refine ⟨max k1 k2 + 1, b2, ?_, fun hb a ha => ?_⟩
      · rw [laws_zzFits13.l0, if_pos (by omega), if_pos (by omega), if_pos (by omega), rd_T_at hlt, h1', e]
        exact h2'
      · rw [List.drop_eq_getElem_cons hlt] at ha
        rcases List.mem_cons.1 ha with rfl | ha
        · exact i1 rfl
        · exact i2 hb a ha
theorem fits13_ends (l : List S58) : ∃ k b, laws_zzFits13.f k l = some b ∧ (b = true → l.length ≤ 2147483647 ∧ ∀ a, a ∈ l → fitA a) := by
  by_cases h : (l.length : Int) > 2147483647
  · exact ⟨0, false, by rw [laws_zzFits13.f, if_pos h], fun h => absurd h (by decide)⟩
  · obtain ⟨k, b, hb, hi⟩ := fits13_l0 l (by omega) l.length 0 (by omega)
    exact ⟨k, b, by rw [laws_zzFits13.f, if_neg h]; exact hb, fun hbt => ⟨by omega, fun a ha => hi hbt a (by simpa using ha)⟩⟩

end Go.Proofs.YteockihoefbmdaaGreatDoor.Ber
namespace Go.Proofs.YteockihoefbmdaaGreatDoor.Ber
open Go.RowKit Go.Proofs.YteockihoefbmdaaGreatDoorW.PrintWords Go.Proofs.YteockihoefbmdaaGreatDoorW.PrintLast Go.Proofs.YteockihoefbmdaaGreatDoor.Buf Go.Proofs.YteockihoefbmdaaGreatDoor.Pk Go.Proofs.YteockihoefbmdaaGreatDoor.Tree Go.Proofs.YteockihoefbmdaaGreatDoor.Num Go.Proofs.YteockihoefbmdaaGreatDoor.Ident Go.Proofs.YteockihoefbmdaaGreatDoor.PFnEncode Go.Proofs.YteockihoefbmdaaGreatDoor.Within
set_option linter.unusedVariables false
set_option linter.unusedSimpArgs false

theorem rdS_at {l : List S60} {j : Nat} (h : j < l.length) : rd_T60 l (j : Int) = l[j] := by
  rw [rd_T60, Int.toNat_natCast, List.getD_eq_getElem?_getD, List.getElem?_eq_getElem h]
  rfl
theorem map_sb (l : List ByteArray) : (l.map bytesOf).map strOfNums = l := by
  rw [List.map_map]
  conv => rhs; rw [← List.map_id l]
  exact List.map_congr_left (fun s _ => so_bo s)
set_option maxHeartbeats 6400000 in
set_option maxRecDepth 100000 in
theorem fnEntry_any (dn : ByteArray) (l : List S58) (A : Option Addr) (c : Nat) (w : World) (hC : Kd.C k58 w A l.length l) (hc : l.length ≤ c) (va ua : Addr) (hE : EofAt w va ua) :
    Calls Tryz.prog 5 #[.string dn, .slice A l.length c] w fun e w' => e = .returned (.bool true) ∧ Below w.heap.size w w' := by
  have HB := Lib.hid (Below.refl w.heap.size w)
  by_cases h0 : 2147483647 < dn.size
  · have e1 : decide (2147483647 < (dn.size : Int)) = true := decide_eq_true (by omega)
    have e2 : decide (2147483647 < dn.size) = true := decide_eq_true h0
    clear h0 hC hc hE
    go_enter Tryz.func5, Tryz.ntmps5
    go_wp2
    go_ret
    exact ⟨rfl, HB.out⟩
  have e0_1 : decide (2147483647 < (dn.size : Int)) = false := decide_eq_false (by omega)
  have e0_2 : decide (2147483647 < dn.size) = false := decide_eq_false h0
  clear h0
  obtain ⟨k13, b13, hf13, hi13⟩ := fits13_ends l
  have HF13 : Hid (Calls Tryz.prog 18 #[.slice A l.length c] w fun e w' => e = .returned (.bool b13) ∧ Below w.heap.size w w') := Lib.hid (laws_zzFits13.calls k13 A c l b13 w hC hc hf13)
  clear hf13
  cases b13 with
  | false =>
    clear hi13 hC hc hE
    go_enter Tryz.func5, Tryz.ntmps5
    go_wp2_with (first
      | (go_at_call 18
         with_reducible refine HF13.out.mono ?_
         rintro e W1 ⟨rfl, hB1⟩
         have HB1 := Lib.hid hB1
         clear hB1))
    go_ret
    exact ⟨rfl, HB1.out⟩
  | true =>
  obtain ⟨hln, hfa⟩ := hi13 rfl
  clear hi13
  obtain ⟨kat, r, bat, hfat, hiat⟩ := attributes_ends l hln hfa
  have HAT : Hid (∀ W, Below w.heap.size w W → Calls Tryz.prog 19 #[.slice A l.length c] W fun e w' => ∃ v0_ : Value, e = .returned (.tuple #[v0_, .bool bat]) ∧ Kd.S k60 60 w' W.heap.size (fun _ => True) v0_ r ∧ Below W.heap.size W w') :=
    Lib.hid (fun W hb => laws_attributes.calls kat A c l r bat W (Kd.C_below hC hb) hc hfat)
  have HSH : Hid (∀ u W, W = u.alloc (.cells #[.string dn] 9) → Calls Tryz.prog 7 #[.slice (some ⟨u.heap.size, 0, none⟩) 1 1] W fun e w' => e = .returned (.bool (shortT [dn])) ∧ Below u.heap.size u w') := Lib.hid (fun u W hW => by
    have hb : W.heap[u.heap.size]? = some (.cells #[.string dn] 9 (0, 0)) := by rw [hW]; exact blk_new _ _
    have hB : Below u.heap.size u W := by rw [hW]; exact below_alloc (Below.refl _ _) _
    refine (short_any [dn] (some ⟨u.heap.size, 0, none⟩) 1 W (strs_block hb rfl (by simp)) (Nat.le_refl _) (by simp)).mono ?_
    rintro e w' ⟨he, hb'⟩
    exact ⟨he, hB.trans (hb'.mono hB.size)⟩)
  clear hfat hfa
  cases hsh : shortT [dn] with
  | false =>
    rw [hsh] at HSH
    clear hsh hiat hC hc hln hE
    go_enter Tryz.func5, Tryz.ntmps5
    go_wp2_with (first
      | (go_at_call 18
         with_reducible refine HF13.out.mono ?_
         rintro e W1 ⟨rfl, hB1⟩
         have HB1 := Lib.hid hB1
         have HAT1 := Lib.hid (HAT.out W1 hB1)
         clear hB1)
      | (go_at_call 19
         with_reducible refine HAT1.out.mono ?_
         rintro e W2 ⟨v2, rfl, hS2, hB2⟩
         obtain ⟨A2, c2, rfl, l2, hr2⟩ := Kd.S_reads hS2
         have HB2 := Lib.hid (HB1.out.trans (hB2.mono HB1.out.size))
         clear hS2 hB2 l2 hr2)
      | (go_at_call 7
         with_reducible refine (HSH.out W2 _ rfl).mono ?_
         rintro e W3 ⟨rfl, hB3⟩
         have HB23 := Lib.hid hB3
         have HB3 := Lib.hid (HB2.out.trans (hB3.mono HB2.out.size))
         clear hB3)
      | (go_at_call 8
         refine (works_any _).mono ?_
         rintro e W9 ⟨rfl, hB9⟩
         have HB9 := Lib.hid (HB3.out.trans (hB9.mono HB3.out.size))
         clear hB9))
    go_ret
    exact ⟨rfl, HB9.out⟩
  | true =>
  rw [hsh] at HSH
  have zdn : dn.size ≤ 200 := by
    simp only [shortT, List.all_cons, List.all_nil, Bool.and_true, Bool.and_eq_true, decide_eq_true_eq] at hsh
    exact hsh.1
  clear hsh
  cases bat with
  | false =>
    clear hiat hC hc hln hE
    go_enter Tryz.func5, Tryz.ntmps5
    go_wp2_with (first
      | (go_at_call 18
         with_reducible refine HF13.out.mono ?_
         rintro e W1 ⟨rfl, hB1⟩
         have HB1 := Lib.hid hB1
         have HAT1 := Lib.hid (HAT.out W1 hB1)
         clear hB1)
      | (go_at_call 19
         with_reducible refine HAT1.out.mono ?_
         rintro e W2 ⟨v2, rfl, hS2, hB2⟩
         obtain ⟨A2, c2, rfl, l2, hr2⟩ := Kd.S_reads hS2
         have HB2 := Lib.hid (HB1.out.trans (hB2.mono HB1.out.size))
         clear hS2 hB2 l2 hr2)
      | (go_at_call 7
         with_reducible refine (HSH.out W2 _ rfl).mono ?_
         rintro e W3 ⟨rfl, hB3⟩
         have HB23 := Lib.hid hB3
         have HB3 := Lib.hid (HB2.out.trans (hB3.mono HB2.out.size))
         clear hB3)
      | (go_at_call 8
         refine (works_any _).mono ?_
         rintro e W9 ⟨rfl, hB9⟩
         have HB9 := Lib.hid (HB3.out.trans (hB9.mono HB3.out.size))
         clear hB9))
    go_ret
    exact ⟨rfl, HB9.out⟩
  | true =>
  obtain ⟨hr, hn10, hsa⟩ := hiat rfl
  clear hiat
  subst hr
  have hss : ∀ a, a ∈ l.map attrOf → shortS a := fun a ha => by obtain ⟨b, hb, rfl⟩ := List.mem_map.1 ha; exact shortS_of (hsa b hb)
  have hok : ∀ a, a ∈ l.map attrOf → okA a := fun a ha => by obtain ⟨b, hb, rfl⟩ := List.mem_map.1 ha; exact okA_of (hsa b hb)
  have hlm : (l.map attrOf).length = l.length := List.length_map ..
  obtain ⟨m, hm⟩ : ∃ m, m = l.map attrOf := ⟨_, rfl⟩
  rw [← hm] at hss hok hlm HAT
  obtain ⟨n, hn⟩ : ∃ n, n = l.length := ⟨_, rfl⟩
  rw [← hn] at hlm hn10 HAT HF13 ⊢
  have HSS := Lib.hid hss
  have HML := Lib.hid hlm
  have HFI := Lib.hid (entT_fine dn m (by omega) (by omega) hss)
  have HIS := Lib.hid (ent_is dn m (by omega) hss)
  have HSE : Hid (∀ (A2 : Option Addr) (c2 : Nat) (W : World), Kd.C k60 W A2 n m → Calls Tryz.prog 21 #[.string dn, .slice A2 n c2] W (Nw W.heap.size W (entT dn m))) := Lib.hid (fun A2 c2 W h => by
    have := sEnt_nw dn m A2 c2 W (by rw [hlm]; exact h) (by omega) hok (by omega)
    rw [hlm] at this
    exact this)
  obtain ⟨x, hx⟩ : ∃ x, x = entT dn m := ⟨_, rfl⟩
  rw [← hx] at HSE HFI HIS
  have HPL : Hid (∀ (A3 : Option Addr) (c3 : Nat) (A4 : Option Addr) (c4 : Nat) (W : World), (Kd.int .u8).C W A3 x.f3.length x.f3 → x.f3.length ≤ c3 → k34.C W A4 x.f4.length x.f4 → x.f4.length ≤ c4 → Calls Tryz.prog 10 #[.agg #[.int .i64 x.f0, .int .i64 x.f1, .bool x.f2, .slice A3 x.f3.length c3, .slice A4 x.f4.length c4]] W (Pln W W x A3 c3)) := Lib.hid (fun A3 c3 A4 c4 W h3 l3 h4 l4 => plain_any W (dpx x) x (Nat.le_refl _) (Nat.le_trans HFI.out.t (by decide)) A3 c3 A4 c4 W h3 l3 h4 l4 (Below.refl _ _))
  obtain ⟨G, hG⟩ : ∃ G, G = (m.map prA).map aS := ⟨_, rfl⟩
  have HGG : Hid (∀ k (hk : k < m.length), G[k]? = some ⟨m[k].f0, m[k].f1.map bytesOf⟩) := Lib.hid (fun k hk => by
    rw [hG, List.getElem?_map, List.getElem?_map, List.getElem?_eq_getElem hk]
    rfl)
  have HGL : Hid (G.length = n) := Lib.hid (by rw [hG, List.length_map, List.length_map, hlm])
  have HEN : Hid (∀ (A3 : Option Addr) (c3 : Nat) (A4 : Option Addr) (c4 : Nat) (W : World), B8.C W A3 x.f3.length x.f3 → k30.C W A4 (plL x.f4).length (plL x.f4) → Below w.heap.size w W → Calls Tryz.prog 20 #[.agg #[.int .i64 x.f0, .int .i64 x.f1, .bool x.f2, .slice A3 x.f3.length c3, .slice A4 (plL x.f4).length c4]] W fun e w' => ∃ A5 d5, e = .returned (.tuple #[.string dn, .slice A5 n d5, .bool true]) ∧ Kd.C k58 w' A5 n G ∧ Below W.heap.size W w') := Lib.hid (fun A3 c3 A4 c4 W h3 h4 hb => by
    refine (entry_x x HFI.out HIS.out (fun a ha s hs => ?_) (fun a ha => ?_) W A3 c3 A4 c4 h3 h4 va ua (eof_below hE hb)).mono ?_
    · obtain ⟨y, hy, rfl⟩ := List.mem_map.1 ha
      have := (HSS.out y hy).2.2 s hs
      omega
    · obtain ⟨y, hy, rfl⟩ := List.mem_map.1 ha
      have := (HSS.out y hy).2.1
      show y.f1.length ≤ 1000000
      omega
    · rintro e w' ⟨A5, d5, he, _, hc5, hb5⟩
      rw [List.length_map, hlm] at he hc5
      rw [← hG] at hc5
      exact ⟨A5, d5, he, hc5, hb5⟩)
  have HWK : Hid (∀ W, Calls Tryz.prog 8 #[] W fun e w' => e = .returned (.bool true) ∧ Below W.heap.size W w') := Lib.hid (fun W => works_any W)
  have HATT : Hid (∀ (x : S60) (A1 : Option Addr) (c1 : Nat) (W : World), x ∈ m → Kd.C (Kd.slice 5 (Kd.int .u8)) W A1 x.f1.length (x.f1.map bytesOf) → x.f1.length ≤ c1 → Calls Tryz.prog 22 #[.agg #[.string x.f0, .slice A1 x.f1.length c1]] W fun e w' => ∃ Ay cy, e = .returned (.agg #[.string x.f0, .slice Ay x.f1.length cy]) ∧ Kd.C Kd.string w' Ay x.f1.length x.f1 ∧ Below W.heap.size W w') := Lib.hid (fun x A1 c1 W hx hC hc => by
    have hl : (x.f1.map bytesOf).length = x.f1.length := List.length_map ..
    have hsh := (HSS.out x hx).2.1
    have hf : laws_attribute.f (x.f1.length + 1) x.f0 (x.f1.map bytesOf) = some (x.f0, x.f1) := by
      rw [attribute_k x.f0 (x.f1.map bytesOf) (by omega) (by omega), map_sb]
    have := laws_attribute.calls _ x.f0 A1 c1 (x.f1.map bytesOf) x.f0 x.f1 W (by rw [hl]; exact hC) (by rw [hl]; exact hc) hf
    rw [hl] at this
    refine this.mono ?_
    rintro e w' ⟨v1, he, hR, hb⟩
    obtain ⟨Ay, cy, hv⟩ := Kd.R_slice hR
    subst hv
    exact ⟨Ay, cy, he, (Kd.R_reads' hR).2.2, hb⟩)
  clear hss hok hlm hm hn hx hG hsa hln zdn hE hC hc
  go_enter Tryz.func5, Tryz.ntmps5
  go_wp2_with (first
      | (go_at_call 18
         with_reducible refine HF13.out.mono ?_
         rintro e W1 ⟨rfl, hB1⟩
         have HB1 := Lib.hid hB1
         have HAT1 := Lib.hid (HAT.out W1 hB1)
         clear hB1)
      | (go_at_call 19
         with_reducible refine HAT1.out.mono ?_
         rintro e W2 ⟨v2, rfl, hS2, hB2⟩
         obtain ⟨A2, c2, rfl, l2, hr2⟩ := Kd.S_reads hS2
         rw [HML.out] at hr2 ⊢
         have HR2 := Lib.hid hr2
         have HB2 := Lib.hid (HB1.out.trans (hB2.mono HB1.out.size))
         clear hS2 hB2 l2 hr2)
      | (go_at_call 7
         with_reducible refine (HSH.out W2 _ rfl).mono ?_
         rintro e W3 ⟨rfl, hB3⟩
         have HB23 := Lib.hid hB3
         have HB3 := Lib.hid (HB2.out.trans (hB3.mono HB2.out.size))
         clear hB3)
      | (go_at_call 21
         with_reducible refine (HSE.out A2 c2 W3 (Kd.C_below HR2.out HB23.out)).mono ?_
         rintro e W4 h4
         obtain ⟨B3, d3, B4, d4, rfl, hl4, hB4⟩ := h4.open
         have HP4 := Lib.hid (HPL.out B3 d3 B4 d4 W4 (Kd.F_now hl4.2.1) hl4.1 (Kd.F_now hl4.2.2.2) hl4.2.2.1)
         have HG4 := Lib.hid (Kd.F_now hl4.2.1)
         have HB24 := Lib.hid (HB23.out.trans (hB4.mono HB23.out.size))
         clear h4 hl4 hB4)
      | (go_at_call 10
         with_reducible refine HP4.out.mono ?_
         rintro e W5 ⟨E4, q4, rfl, l4, g4, hB5⟩
         have HB25 := Lib.hid (HB24.out.trans (hB5.mono HB24.out.size))
         have HE5 := Lib.hid (HEN.out B3 d3 E4 q4 W5 (Kd.C_below HG4.out hB5) (Kd.F_now g4) (HB2.out.trans (HB25.out.mono HB2.out.size)))
         clear l4 g4 hB5)
      | (go_at_call 20
         with_reducible refine HE5.out.mono ?_
         rintro e V ⟨A5, d5, rfl, hc5, hB6⟩
         have HGV := Lib.hid hc5
         have HB26 := Lib.hid (HB25.out.trans (hB6.mono HB25.out.size))
         clear hc5 hB6))
  have HAV : Hid (Kd.C k60 V A2 n m) := Lib.hid (Kd.C_below HR2.out HB26.out)
  have HBV : Hid (Below w.heap.size w V) := Lib.hid (HB2.out.trans (HB26.out.mono HB2.out.size))
  go_loopw [61] (fun i wr => ∃ k : Nat, i = .int .i64 k ∧ k ≤ n ∧ Hid (Below V.heap.size V wr)) (fun i _ => n - (intOf i).toNat)
  case atStart => exact ⟨0, rfl, Nat.zero_le _, Lib.hid (Below.refl _ _)⟩
  case round =>
    obtain ⟨U, rfl⟩ : ∃ U, U = wr := ⟨_, rfl⟩
    obtain ⟨K, rfl, hK, HBU⟩ := hrel
    by_cases hlt : K < n
    · have hKm : K < m.length := by rw [HML.out]; exact hlt
      have hgk := HGG.out K hKm
      obtain ⟨ad5, A1, c1, e5, f0, f1, l1, h1⟩ := at_T58 HGV.out (K : Int) (by omega) (by omega)
      have hrd : rd_T58 G (K : Int) = ⟨m[K].f0, m[K].f1.map bytesOf⟩ := by
        rw [rd_T58, Int.toNat_natCast, List.getD_eq_getElem?_getD, hgk]
        rfl
      rw [hrd] at f0 f1 l1 h1
      rw [Int.toNat_natCast] at f0 f1
      obtain ⟨ad2, As, cs, e2, g0, g1, ls, hs⟩ := at_T60 HAV.out (K : Int) (by omega) (by omega)
      rw [rdS_at hKm] at g0 g1 ls hs
      rw [Int.toNat_natCast] at g0 g1
      subst e5
      subst e2
      have hxm : m[K] ∈ m := List.getElem_mem hKm
      obtain ⟨y, hy⟩ : ∃ y, y = m[K] := ⟨_, rfl⟩
      rw [← hy] at f0 f1 l1 h1 g0 g1 ls hs hxm
      simp only [List.length_map] at f1 l1 h1
      have HAT9 := Lib.hid (fun W hW => HATT.out y A1 c1 W hxm (Kd.C_below h1 hW) l1)
      obtain ⟨nm, hnm⟩ : ∃ z, z = y.f0 := ⟨_, rfl⟩
      obtain ⟨vs, hvs⟩ : ∃ z, z = y.f1 := ⟨_, rfl⟩
      obtain ⟨p, hp⟩ : ∃ z, z = vs.length := ⟨_, rfl⟩
      rw [← hnm, ← hvs, ← hp] at HAT9
      rw [← hnm] at f0 g0
      rw [← hvs, ← hp] at f1 g1 hs
      have HPV := Lib.hid hp
      have HSV := Lib.hid hs
      have HCV : Hid (V.cell? (ad2.add (K * 2)) = some (.string nm) ∧ V.cell? ⟨(ad2.add (K * 2)).block, (ad2.add (K * 2)).off + 1, none⟩ = some (.slice As p cs)) := Lib.hid ⟨g0, g1⟩
      replace f0 := (HBU.out.cell (World.block_lt_of_cell? V _ f0)).trans f0
      replace f1 := (HBU.out.cell (World.block_lt_of_cell? V _ f1)).trans f1
      have hp9 : p ≤ 1000 := by rw [hp, hvs]; have := (HSS.out y hxm).2.1; omega
      have b0 : (U.alloc (.cells #[.string nm, .slice A1 p c1] 58)).cell? ⟨U.heap.size, 0, none⟩ = some (.string nm) := blk_cell (blk_new _ _) 0
      have b1 : (U.alloc (.cells #[.string nm, .slice A1 p c1] 58)).cell? ⟨U.heap.size, 1, none⟩ = some (.slice A1 p c1) := blk_cell (blk_new _ _) 1
      have HU3 : Hid (Below V.heap.size V (U.alloc (.cells #[.string nm, .slice A1 p c1] 58))) := Lib.hid (below_alloc HBU.out _)
      clear hgk hrd hy hxm l1 h1 g0 g1 ls hs hnm hvs hp
      go_upto_region 13 with (go_at_call 22
                              with_reducible refine (HAT9.out _ HU3.out).mono ?_
                              rintro e W4 ⟨Ay, cy, rfl, hy4, hB4⟩
                              have HY4 := Lib.hid hy4
                              have HB4 := Lib.hid (HU3.out.trans (hB4.mono HU3.out.size))
                              clear hy4 hB4)
      obtain ⟨W5, hW5⟩ : ∃ W5, W5 = W4.alloc (.cells #[.string nm, .slice Ay p cy] 60) := ⟨_, rfl⟩
      rw [← hW5]
      have hb5 : Below W4.heap.size W4 W5 := by rw [hW5]; exact below_alloc (Below.refl _ _) _
      have HG5 : Hid (W5.heap[W4.heap.size]? = some (.cells #[.string nm, .slice Ay p cy] 60 (0, 0))) := Lib.hid (by rw [hW5]; exact blk_new _ _)
      have HY5 := Lib.hid (Kd.C_below HY4.out hb5)
      have HB5 := Lib.hid (HB4.out.trans (hb5.mono HB4.out.size))
      have HC5 : Hid (W5.cell? (ad2.add (K * 2)) = some (.string nm) ∧ W5.cell? ⟨(ad2.add (K * 2)).block, (ad2.add (K * 2)).off + 1, none⟩ = some (.slice As p cs)) := Lib.hid ⟨(HB5.out.cell (World.block_lt_of_cell? V _ HCV.out.1)).trans HCV.out.1, (HB5.out.cell (World.block_lt_of_cell? V _ HCV.out.2)).trans HCV.out.2⟩
      have HS5 : Hid (Kd.C Kd.string W5 As p vs) := Lib.hid (Kd.C_below HSV.out HB5.out)
      obtain ⟨g, hg⟩ : ∃ g, g = W4.heap.size := ⟨_, rfl⟩
      rw [← hg] at HG5 ⊢
      clear hW5 hb5 hg f0 f1 b0 b1
      refine start_ (n := 20) (S := fun w' => w'.cell? ⟨g, 0, none⟩ = some (.string nm) ∧ w'.cell? ⟨g, 1, none⟩ = some (.slice Ay p cy) ∧ w'.cell? (ad2.add (K * 2)) = some (.string nm) ∧ w'.cell? ⟨(ad2.add (K * 2)).block, (ad2.add (K * 2)).off + 1, none⟩ = some (.slice As p cs)) (ds := []) #[nN,nN,nN,nN,nN,nN,nN,nN,nN,nN,nN,nN,nN,nN,nN,nN,nN,nN,nN,nN] (by kernel_rfl) rfl rfl ⟨blk_cell HG5.out 0, blk_cell HG5.out 1, HC5.out.1, HC5.out.2⟩ (fun hHeld => ?_)
      refine pure_ (i := 0) (N := some 68) (v := ?_) (a' := ?_) #[yY,nN,nN,nN,nN,nN,nN,nN,nN,nN,nN,nN,nN,nN,nN,nN,nN,nN,nN,nN] rfl rfl (by kernel_rfl) (fun _ _ _ h => h) (Or.inl ⟨by rfl, ?_⟩) ?_ ?_
      rotate_left
      · intro w'
        go_simp
        with_reducible rfl
      rotate_left
      · simp only [Act.put, List.setIfInBounds_toArray, List.set_cons_zero, List.set_cons_succ, i64_w, i32_w]
        rfl
      refine pure_ (i := 2) (N := some 70) (v := ?_) (a' := ?_) #[yY,nN,yY,nN,nN,nN,nN,nN,nN,nN,nN,nN,nN,nN,nN,nN,nN,nN,nN,nN] rfl rfl (by kernel_rfl) (fun _ _ _ h => h) (Or.inl ⟨by rfl, ?_⟩) ?_ ?_
      rotate_left
      · intro w'
        go_simp
        with_reducible rfl
      rotate_left
      · simp only [Act.put, List.setIfInBounds_toArray, List.set_cons_zero, List.set_cons_succ, i64_w, i32_w]
        rfl
      refine pure_ (i := 3) (N := some 71) (v := ?_) (a' := ?_) #[yY,nN,yY,yY,nN,nN,nN,nN,nN,nN,nN,nN,nN,nN,nN,nN,nN,nN,nN,nN] rfl rfl (by kernel_rfl) (fun _ _ _ h => h) (Or.inl ⟨by rfl, ?_⟩) ?_ ?_
      rotate_left
      · intro w'
        go_simp
        with_reducible rfl
      rotate_left
      · simp only [Act.put, List.setIfInBounds_toArray, List.set_cons_zero, List.set_cons_succ, i64_w, i32_w]
        rfl
      refine pure_ (i := 4) (N := some 72) (v := ?_) (a' := ?_) #[yY,nN,yY,yY,yY,nN,nN,nN,nN,nN,nN,nN,nN,nN,nN,nN,nN,nN,nN,nN] rfl rfl (by kernel_rfl) (fun _ _ _ h => h) (Or.inl ⟨by rfl, ?_⟩) ?_ ?_
      rotate_left
      · intro w'
        go_simp
        with_reducible rfl
      rotate_left
      · simp only [Act.put, List.setIfInBounds_toArray, List.set_cons_zero, List.set_cons_succ, i64_w, i32_w]
        rfl
      refine pure_ (i := 5) (N := some 73) (v := ?_) (a' := ?_) #[yY,nN,yY,yY,yY,yY,nN,nN,nN,nN,nN,nN,nN,nN,nN,nN,nN,nN,nN,nN] rfl rfl (by kernel_rfl) (fun _ _ _ h => h) (Or.inl ⟨by rfl, ?_⟩) ?_ ?_
      rotate_left
      · intro w'
        go_simp
        with_reducible rfl
      rotate_left
      · simp only [Act.put, List.setIfInBounds_toArray, List.set_cons_zero, List.set_cons_succ, i64_w, i32_w]
        rfl
      refine take_ (i := 1) (N := some 69) (v := ?_) (a' := ?_) #[yY,yY,yY,yY,yY,yY,nN,nN,nN,nN,nN,nN,nN,nN,nN,nN,nN,nN,nN,nN] rfl rfl (by kernel_rfl) (fun _ _ _ h => h) (Or.inl ⟨by rfl, ?_⟩) hHeld ?_ ?_
      rotate_left
      · rintro w' ⟨s0, s1, s2, s3⟩
        go_simp
        with_reducible rfl
      rotate_left
      · simp only [Act.put, List.setIfInBounds_toArray, List.set_cons_zero, List.set_cons_succ, i64_w, i32_w]
        rfl
      refine take_ (i := 6) (N := some 74) (v := ?_) (a' := ?_) #[yY,yY,yY,yY,yY,yY,yY,nN,nN,nN,nN,nN,nN,nN,nN,nN,nN,nN,nN,nN] rfl rfl (by kernel_rfl) (fun _ _ _ h => h) (Or.inl ⟨by rfl, ?_⟩) hHeld ?_ ?_
      rotate_left
      · rintro w' ⟨s0, s1, s2, s3⟩
        go_simp
        with_reducible rfl
      rotate_left
      · simp only [Act.put, List.setIfInBounds_toArray, List.set_cons_zero, List.set_cons_succ, i64_w, i32_w]
        rfl
      refine pure_ (i := 7) (N := some 75) (v := ?_) (a' := ?_) #[yY,yY,yY,yY,yY,yY,yY,yY,nN,nN,nN,nN,nN,nN,nN,nN,nN,nN,nN,nN] rfl rfl (by kernel_rfl) (fun _ _ _ h => h) (Or.inl ⟨by rfl, ?_⟩) ?_ ?_
      rotate_left
      · intro w'
        go_simp
        with_reducible rfl
      rotate_left
      · simp only [Act.put, List.setIfInBounds_toArray, List.set_cons_zero, List.set_cons_succ, i64_w, i32_w]
        rfl
      refine pure_ (i := 8) (N := some 76) (v := ?_) (a' := ?_) #[yY,yY,yY,yY,yY,yY,yY,yY,yY,nN,nN,nN,nN,nN,nN,nN,nN,nN,nN,nN] rfl rfl (by kernel_rfl) (fun _ _ _ h => h) (Or.inl ⟨by rfl, ?_⟩) ?_ ?_
      rotate_left
      · intro w'
        go_simp
        with_reducible rfl
      rotate_left
      · simp only [Act.put, List.setIfInBounds_toArray, List.set_cons_zero, List.set_cons_succ, i64_w, i32_w]
        rfl
      refine pure_ (i := 9) (N := some 77) (v := ?_) (a' := ?_) #[yY,yY,yY,yY,yY,yY,yY,yY,yY,yY,nN,nN,nN,nN,nN,nN,nN,nN,nN,nN] rfl rfl (by kernel_rfl) (fun _ _ _ h => h) (Or.inl ⟨by rfl, ?_⟩) ?_ ?_
      rotate_left
      · intro w'
        go_simp
        with_reducible rfl
      rotate_left
      · simp only [Act.put, List.setIfInBounds_toArray, List.set_cons_zero, List.set_cons_succ, i64_w, i32_w]
        rfl
      refine pure_ (i := 12) (N := some 80) (v := ?_) (a' := ?_) #[yY,yY,yY,yY,yY,yY,yY,yY,yY,yY,nN,nN,yY,nN,nN,nN,nN,nN,nN,nN] rfl rfl (by kernel_rfl) (fun _ _ _ h => h) (Or.inl ⟨by rfl, ?_⟩) ?_ ?_
      rotate_left
      · intro w'
        go_simp
        with_reducible rfl
      rotate_left
      · simp only [Act.put, List.setIfInBounds_toArray, List.set_cons_zero, List.set_cons_succ, i64_w, i32_w]
        rfl
      refine pure_ (i := 13) (N := some 81) (v := ?_) (a' := ?_) #[yY,yY,yY,yY,yY,yY,yY,yY,yY,yY,nN,nN,yY,yY,nN,nN,nN,nN,nN,nN] rfl rfl (by kernel_rfl) (fun _ _ _ h => h) (Or.inl ⟨by rfl, ?_⟩) ?_ ?_
      rotate_left
      · intro w'
        go_simp
        with_reducible rfl
      rotate_left
      · simp only [Act.put, List.setIfInBounds_toArray, List.set_cons_zero, List.set_cons_succ, i64_w, i32_w]
        rfl
      refine pure_ (i := 14) (N := some 82) (v := ?_) (a' := ?_) #[yY,yY,yY,yY,yY,yY,yY,yY,yY,yY,nN,nN,yY,yY,yY,nN,nN,nN,nN,nN] rfl rfl (by kernel_rfl) (fun _ _ _ h => h) (Or.inl ⟨by rfl, ?_⟩) ?_ ?_
      rotate_left
      · intro w'
        go_simp
        with_reducible rfl
      rotate_left
      · simp only [Act.put, List.setIfInBounds_toArray, List.set_cons_zero, List.set_cons_succ, i64_w, i32_w]
        rfl
      refine pure_ (i := 15) (N := some 83) (v := ?_) (a' := ?_) #[yY,yY,yY,yY,yY,yY,yY,yY,yY,yY,nN,nN,yY,yY,yY,yY,nN,nN,nN,nN] rfl rfl (by kernel_rfl) (fun _ _ _ h => h) (Or.inl ⟨by rfl, ?_⟩) ?_ ?_
      rotate_left
      · intro w'
        go_simp
        with_reducible rfl
      rotate_left
      · simp only [Act.put, List.setIfInBounds_toArray, List.set_cons_zero, List.set_cons_succ, i64_w, i32_w]
        rfl
      refine take_ (i := 10) (N := some 78) (v := ?_) (a' := ?_) #[yY,yY,yY,yY,yY,yY,yY,yY,yY,yY,yY,nN,yY,yY,yY,yY,nN,nN,nN,nN] rfl rfl (by kernel_rfl) (fun _ _ _ h => h) (Or.inl ⟨by rfl, ?_⟩) hHeld ?_ ?_
      rotate_left
      · rintro w' ⟨s0, s1, s2, s3⟩
        go_simp
        with_reducible rfl
      rotate_left
      · simp only [Act.put, List.setIfInBounds_toArray, List.set_cons_zero, List.set_cons_succ, i64_w, i32_w]
        rfl
      refine pure_ (i := 11) (N := some 79) (v := ?_) (a' := ?_) #[yY,yY,yY,yY,yY,yY,yY,yY,yY,yY,yY,yY,yY,yY,yY,yY,nN,nN,nN,nN] rfl rfl (by kernel_rfl) (fun _ _ _ h => h) (Or.inl ⟨by rfl, ?_⟩) ?_ ?_
      rotate_left
      · intro w'
        go_simp
        with_reducible rfl
      rotate_left
      · simp only [Act.put, List.setIfInBounds_toArray, List.set_cons_zero, List.set_cons_succ, i64_w, i32_w]
        rfl
      refine take_ (i := 16) (N := some 84) (v := ?_) (a' := ?_) #[yY,yY,yY,yY,yY,yY,yY,yY,yY,yY,yY,yY,yY,yY,yY,yY,yY,nN,nN,nN] rfl rfl (by kernel_rfl) (fun _ _ _ h => h) (Or.inl ⟨by rfl, ?_⟩) hHeld ?_ ?_
      rotate_left
      · rintro w' ⟨s0, s1, s2, s3⟩
        go_simp
        with_reducible rfl
      rotate_left
      · simp only [Act.put, List.setIfInBounds_toArray, List.set_cons_zero, List.set_cons_succ, i64_w, i32_w]
        rfl
      refine pure_ (i := 17) (N := some 85) (v := ?_) (a' := ?_) #[yY,yY,yY,yY,yY,yY,yY,yY,yY,yY,yY,yY,yY,yY,yY,yY,yY,yY,nN,nN] rfl rfl (by kernel_rfl) (fun _ _ _ h => h) (Or.inl ⟨by rfl, ?_⟩) ?_ ?_
      rotate_left
      · intro w'
        go_simp
        with_reducible rfl
      rotate_left
      · simp only [Act.put, List.setIfInBounds_toArray, List.set_cons_zero, List.set_cons_succ, i64_w, i32_w]
        rfl
      refine pure_ (i := 18) (N := some 86) (v := ?_) (a' := ?_) #[yY,yY,yY,yY,yY,yY,yY,yY,yY,yY,yY,yY,yY,yY,yY,yY,yY,yY,yY,nN] rfl rfl (by kernel_rfl) (fun _ _ _ h => h) (Or.inl ⟨by rfl, ?_⟩) ?_ ?_
      rotate_left
      · intro w'
        go_simp
        with_reducible rfl
      rotate_left
      · simp only [Act.put, List.setIfInBounds_toArray, List.set_cons_zero, List.set_cons_succ, i64_w, i32_w]
        rfl
      refine pure_ (i := 19) (N := some 87) (v := ?_) (a' := ?_) #[yY,yY,yY,yY,yY,yY,yY,yY,yY,yY,yY,yY,yY,yY,yY,yY,yY,yY,yY,yY] rfl rfl (by kernel_rfl) (fun _ _ _ h => h) (Or.inl ⟨by rfl, ?_⟩) ?_ ?_
      rotate_left
      · intro w'
        go_simp
        with_reducible rfl
      rotate_left
      · simp only [Act.put, List.setIfInBounds_toArray, List.set_cons_zero, List.set_cons_succ, i64_w, i32_w]
        rfl
      refine done_ (by kernel_rfl) ?_
      clear hHeld
      have z1 : W5.cell? ⟨g, 1, none⟩ = some (.slice Ay p cy) := blk_cell HG5.out 1
      go_wp2
      clear z1
      go_loopw [91] (fun i wr2 => ∃ j : Nat, i = .int .i64 j ∧ j ≤ p ∧ Hid (Below W5.heap.size W5 wr2)) (fun i _ => p - (intOf i).toNat)
      case atStart => exact ⟨0, rfl, Nat.zero_le _, Lib.hid (Below.refl _ _).drew⟩
      case round =>
        obtain ⟨j, rfl, hj, HBJ⟩ := hrel
        by_cases hlt2 : j < p
        · have hjv : j < vs.length := by rw [← HPV.out]; exact hlt2
          obtain ⟨ady, e1, hcy⟩ := str_atS (by rw [← HPV.out]; exact HY5.out) hjv
          obtain ⟨ads, e2, hcs⟩ := str_atS (by rw [← HPV.out]; exact HS5.out) hjv
          subst e1
          subst e2
          obtain ⟨s, hs⟩ : ∃ s, s = vs[j] := ⟨_, rfl⟩
          rw [← hs] at hcy hcs
          have up : ∀ {a : Addr} {v : Value}, W5.cell? a = some v → wr.drew.cell? a = some v := fun {a v} h => (HBJ.out.cell (World.block_lt_of_cell? W5 _ h)).trans h
          have HD : Hid (wr.drew.cell? ⟨g, 1, none⟩ = some (.slice (some ady) p cy) ∧ wr.drew.cell? (ady.add j) = some (.string s) ∧ wr.drew.cell? ⟨(ad2.add (K * 2)).block, (ad2.add (K * 2)).off + 1, none⟩ = some (.slice (some ads) p cs) ∧ wr.drew.cell? (ads.add j) = some (.string s)) := Lib.hid ⟨up (blk_cell HG5.out 1), up hcy, up HC5.out.2, up hcs⟩
          clear hcy hcs hs up
          go_wp2_with fail
          refine start_ (n := 14) (S := fun w' => w'.cell? ⟨g, 1, none⟩ = some (.slice (some ady) p cy) ∧ w'.cell? (ady.add j) = some (.string s) ∧ w'.cell? ⟨(ad2.add (K * 2)).block, (ad2.add (K * 2)).off + 1, none⟩ = some (.slice (some ads) p cs) ∧ w'.cell? (ads.add j) = some (.string s)) (ds := []) #[nN,nN,nN,nN,nN,nN,nN,nN,nN,nN,nN,nN,nN,nN] (by kernel_rfl) rfl rfl ⟨HD.out.1, HD.out.2.1, HD.out.2.2.1, HD.out.2.2.2⟩ (fun hHeld => ?_)
          refine pure_ (i := 0) (N := some 94) (v := ?_) (a' := ?_) #[yY,nN,nN,nN,nN,nN,nN,nN,nN,nN,nN,nN,nN,nN] rfl rfl (by kernel_rfl) (fun _ _ _ h => h) (Or.inl ⟨by rfl, ?_⟩) ?_ ?_
          rotate_left
          · intro w'
            go_simp
            with_reducible rfl
          rotate_left
          · simp only [Act.put, List.setIfInBounds_toArray, List.set_cons_zero, List.set_cons_succ, i64_w, i32_w]
            rfl
          refine pure_ (i := 2) (N := some 96) (v := ?_) (a' := ?_) #[yY,nN,yY,nN,nN,nN,nN,nN,nN,nN,nN,nN,nN,nN] rfl rfl (by kernel_rfl) (fun _ _ _ h => h) (Or.inl ⟨by rfl, ?_⟩) ?_ ?_
          rotate_left
          · intro w'
            go_simp
            with_reducible rfl
          rotate_left
          · simp only [Act.put, List.setIfInBounds_toArray, List.set_cons_zero, List.set_cons_succ, i64_w, i32_w]
            rfl
          refine pure_ (i := 5) (N := some 99) (v := ?_) (a' := ?_) #[yY,nN,yY,nN,nN,yY,nN,nN,nN,nN,nN,nN,nN,nN] rfl rfl (by kernel_rfl) (fun _ _ _ h => h) (Or.inl ⟨by rfl, ?_⟩) ?_ ?_
          rotate_left
          · intro w'
            go_simp
            with_reducible rfl
          rotate_left
          · simp only [Act.put, List.setIfInBounds_toArray, List.set_cons_zero, List.set_cons_succ, i64_w, i32_w]
            rfl
          refine pure_ (i := 6) (N := some 100) (v := ?_) (a' := ?_) #[yY,nN,yY,nN,nN,yY,yY,nN,nN,nN,nN,nN,nN,nN] rfl rfl (by kernel_rfl) (fun _ _ _ h => h) (Or.inl ⟨by rfl, ?_⟩) ?_ ?_
          rotate_left
          · intro w'
            go_simp
            with_reducible rfl
          rotate_left
          · simp only [Act.put, List.setIfInBounds_toArray, List.set_cons_zero, List.set_cons_succ, i64_w, i32_w]
            rfl
          refine pure_ (i := 7) (N := some 101) (v := ?_) (a' := ?_) #[yY,nN,yY,nN,nN,yY,yY,yY,nN,nN,nN,nN,nN,nN] rfl rfl (by kernel_rfl) (fun _ _ _ h => h) (Or.inl ⟨by rfl, ?_⟩) ?_ ?_
          rotate_left
          · intro w'
            go_simp
            with_reducible rfl
          rotate_left
          · simp only [Act.put, List.setIfInBounds_toArray, List.set_cons_zero, List.set_cons_succ, i64_w, i32_w]
            rfl
          refine pure_ (i := 8) (N := some 102) (v := ?_) (a' := ?_) #[yY,nN,yY,nN,nN,yY,yY,yY,yY,nN,nN,nN,nN,nN] rfl rfl (by kernel_rfl) (fun _ _ _ h => h) (Or.inl ⟨by rfl, ?_⟩) ?_ ?_
          rotate_left
          · intro w'
            go_simp
            with_reducible rfl
          rotate_left
          · simp only [Act.put, List.setIfInBounds_toArray, List.set_cons_zero, List.set_cons_succ, i64_w, i32_w]
            rfl
          refine pure_ (i := 10) (N := some 104) (v := ?_) (a' := ?_) #[yY,nN,yY,nN,nN,yY,yY,yY,yY,nN,yY,nN,nN,nN] rfl rfl (by kernel_rfl) (fun _ _ _ h => h) (Or.inl ⟨by rfl, ?_⟩) ?_ ?_
          rotate_left
          · intro w'
            go_simp
            with_reducible rfl
          rotate_left
          · simp only [Act.put, List.setIfInBounds_toArray, List.set_cons_zero, List.set_cons_succ, i64_w, i32_w]
            rfl
          refine take_ (i := 1) (N := some 95) (v := ?_) (a' := ?_) #[yY,yY,yY,nN,nN,yY,yY,yY,yY,nN,yY,nN,nN,nN] rfl rfl (by kernel_rfl) (fun _ _ _ h => h) (Or.inl ⟨by rfl, ?_⟩) hHeld ?_ ?_
          rotate_left
          · rintro w' ⟨s0, s1, s2, s3⟩
            go_simp
            with_reducible rfl
          rotate_left
          · simp only [Act.put, List.setIfInBounds_toArray, List.set_cons_zero, List.set_cons_succ, i64_w, i32_w]
            rfl
          refine pure_ (i := 3) (N := some 97) (v := ?_) (a' := ?_) #[yY,yY,yY,yY,nN,yY,yY,yY,yY,nN,yY,nN,nN,nN] rfl rfl (by kernel_rfl) (fun _ _ _ h => h) (Or.inl ⟨by rfl, ?_⟩) ?_ ?_
          rotate_left
          · intro w'
            go_simp
            with_reducible rfl
          rotate_left
          · simp only [Act.put, List.setIfInBounds_toArray, List.set_cons_zero, List.set_cons_succ, i64_w, i32_w]
            rfl
          refine take_ (i := 4) (N := some 98) (v := ?_) (a' := ?_) #[yY,yY,yY,yY,yY,yY,yY,yY,yY,nN,yY,nN,nN,nN] rfl rfl (by kernel_rfl) (fun _ _ _ h => h) (Or.inl ⟨by rfl, ?_⟩) hHeld ?_ ?_
          rotate_left
          · rintro w' ⟨s0, s1, s2, s3⟩
            go_simp
            with_reducible rfl
          rotate_left
          · simp only [Act.put, List.setIfInBounds_toArray, List.set_cons_zero, List.set_cons_succ, i64_w, i32_w]
            rfl
          refine take_ (i := 9) (N := some 103) (v := ?_) (a' := ?_) #[yY,yY,yY,yY,yY,yY,yY,yY,yY,yY,yY,nN,nN,nN] rfl rfl (by kernel_rfl) (fun _ _ _ h => h) (Or.inl ⟨by rfl, ?_⟩) hHeld ?_ ?_
          rotate_left
          · rintro w' ⟨s0, s1, s2, s3⟩
            go_simp
            with_reducible rfl
          rotate_left
          · simp only [Act.put, List.setIfInBounds_toArray, List.set_cons_zero, List.set_cons_succ, i64_w, i32_w]
            rfl
          refine pure_ (i := 11) (N := some 105) (v := ?_) (a' := ?_) #[yY,yY,yY,yY,yY,yY,yY,yY,yY,yY,yY,yY,nN,nN] rfl rfl (by kernel_rfl) (fun _ _ _ h => h) (Or.inl ⟨by rfl, ?_⟩) ?_ ?_
          rotate_left
          · intro w'
            go_simp
            with_reducible rfl
          rotate_left
          · simp only [Act.put, List.setIfInBounds_toArray, List.set_cons_zero, List.set_cons_succ, i64_w, i32_w]
            rfl
          refine take_ (i := 12) (N := some 106) (v := ?_) (a' := ?_) #[yY,yY,yY,yY,yY,yY,yY,yY,yY,yY,yY,yY,yY,nN] rfl rfl (by kernel_rfl) (fun _ _ _ h => h) (Or.inl ⟨by rfl, ?_⟩) hHeld ?_ ?_
          rotate_left
          · rintro w' ⟨s0, s1, s2, s3⟩
            go_simp
            with_reducible rfl
          rotate_left
          · simp only [Act.put, List.setIfInBounds_toArray, List.set_cons_zero, List.set_cons_succ, i64_w, i32_w]
            rfl
          refine pure_ (i := 13) (N := some 107) (v := ?_) (a' := ?_) #[yY,yY,yY,yY,yY,yY,yY,yY,yY,yY,yY,yY,yY,yY] rfl rfl (by kernel_rfl) (fun _ _ _ h => h) (Or.inl ⟨by rfl, ?_⟩) ?_ ?_
          rotate_left
          · intro w'
            go_simp
            with_reducible rfl
          rotate_left
          · simp only [Act.put, List.setIfInBounds_toArray, List.set_cons_zero, List.set_cons_succ, i64_w, i32_w]
            rfl
          refine done_ (by kernel_rfl) ?_
          clear hHeld
          go_wp2
          exact ⟨⟨j + 1, by first | rfl | go_num, hlt2, Lib.hid HBJ.out.drew⟩, by simp [intOf]; omega⟩
        · obtain rfl : j = p := by omega
          go_wp2
          exact ⟨⟨K + 1, by first | rfl | go_num, hlt, Lib.hid (HB5.out.trans (HBJ.out.mono HB5.out.size))⟩, by simp [intOf]; omega⟩
    · obtain rfl : K = n := by omega
      go_wp2_with (go_at_call 8
                   with_reducible refine (HWK.out _).mono ?_
                   rintro e W9 ⟨rfl, hB9⟩)
      go_ret
      have h1 := HBV.out.trans (HBU.out.mono HBV.out.size)
      exact ⟨rfl, h1.trans (hB9.mono h1.size)⟩
end Go.Proofs.YteockihoefbmdaaGreatDoor.Ber
namespace Go.Proofs.YteockihoefbmdaaGreatDoor.Open
open Go.RowKit Go.Proofs.YteockihoefbmdaaGreatDoorW.PrintWords
set_option linter.unusedVariables false
set_option linter.unusedSimpArgs false

section
variable {H : Type} (enc : TypeId × Value → H) (P : Program) (W : World)

/-- Whatever of type t reads as a datum within so much fuel is of kind k. -/
def Opens {α : Type} (N : Nat) (t : TypeId) (k : Kd α) (q : α → Prop) : Prop :=
  ∀ fuel, fuel ≤ N → ∀ (cs : List Value) (d : DataW H) (p : List MemPlace), DataW.trod enc P W 0 (fun _ => true) true fuel t cs = some (d, p) → (∀ x ∈ DataW.weights P t d, x ≤ reachBytes) → ∃ x, k.K W x cs ∧ q x
end
section
variable {H : Type} {enc : TypeId × Value → H} {P : Program} {W : World}

theorem Opens.down {α : Type} {N N' : Nat} {t : TypeId} {k : Kd α} {q : α → Prop} (h : Opens enc P W N t k q) (hN : N' ≤ N) : Opens enc P W N' t k q := fun fuel hf => h fuel (Nat.le_trans hf hN)
theorem Opens.imp {α : Type} {N : Nat} {t : TypeId} {k : Kd α} {q q' : α → Prop} (h : Opens enc P W N t k q) (hq : ∀ x, q x → q' x) : Opens enc P W N t k q' := fun fuel hf cs d p ht hw => by
  obtain ⟨x, hx, hqx⟩ := h fuel hf cs d p ht hw
  exact ⟨x, hx, hq x hqx⟩
theorem Opens.iso {α β : Type} {N : Nat} {t : TypeId} {k : Kd α} {q : α → Prop} (h : Opens enc P W N t k q) (f : β → α) (g : α → β) (hfg : ∀ a, f (g a) = a) : Opens enc P W N t (Kd.iso k f) (fun y => q (f y)) := fun fuel hf cs d p ht hw => by
  obtain ⟨x, hx, hqx⟩ := h fuel hf cs d p ht hw
  exact ⟨g x, (by show k.K W (f (g x)) cs; rw [hfg]; exact hx), (by show q (f (g x)); rw [hfg]; exact hqx)⟩

theorem opens_int (N : Nat) {t : TypeId} {k : IntKind} (hu : P.underlying t = some (.int k)) : Opens enc P W N t (Kd.int k) (fun x => (Lit.int k x).wf = true) := by
  intro fuel _ cs d p ht _
  cases fuel with
  | zero => simp [DataW.trod] at ht
  | succ fuel =>
    unfold DataW.trod at ht
    rw [hu] at ht
    split at ht <;> try (simp_all; done)
    rename_i k' k'' n h1
    simp only [Option.some.injEq, TypeDesc.int.injEq] at h1
    subst h1
    split at ht
    · rename_i h2
      obtain ⟨rfl, h3⟩ := h2
      exact ⟨n, rfl, h3⟩
    · cases ht

theorem opens_string (N : Nat) {t : TypeId} (hu : P.underlying t = some .string) : Opens enc P W N t Kd.string (fun s => s.size ≤ reachBytes) := by
  intro fuel _ cs d p ht hw
  cases fuel with
  | zero => simp [DataW.trod] at ht
  | succ fuel =>
    unfold DataW.trod at ht
    rw [hu] at ht
    split at ht <;> try (simp_all; done)
    rename_i s h1
    split at ht
    · simp only [Option.some.injEq, Prod.mk.injEq] at ht
      obtain ⟨rfl, rfl⟩ := ht
      have := hw s.data.toList.length (by simp [DataW.weights])
      rw [Array.length_toList] at this
      exact ⟨s, rfl, this⟩
    · cases ht

theorem weightsAll_mem {e : TypeId} : ∀ {ds : List (DataW H)} {d : DataW H} {x : Nat}, d ∈ ds → x ∈ DataW.weights P e d → x ∈ DataW.weightsAll P e ds
  | d0 :: r, d, x, hd, hx => by
    rw [DataW.weightsAll, List.mem_append]
    rcases List.mem_cons.1 hd with rfl | hd
    · exact .inl hx
    · exact .inr (weightsAll_mem hd hx)

theorem Opens.slice {α : Type} {N : Nat} {t e : TypeId} {k : Kd α} {q : α → Prop} (h : Opens enc P W N e k q) (hu : P.underlying t = some (.slice e)) (hsz : k.sz = P.cellsOf e) (hb : 1 ≤ P.bytesOf e) :
    Opens enc P W (N + 1) t (Kd.slice e k) (fun xs => xs.length ≤ reachBytes ∧ ∀ x ∈ xs, q x) := by
  intro fuel hf cs d p ht hw
  cases fuel with
  | zero => simp [DataW.trod] at ht
  | succ fuel =>
    unfold DataW.trod at ht
    rw [hu] at ht
    split at ht <;> try (simp_all; done)
    · exact ⟨[], ⟨none, 0, rfl, Nat.le_refl _, by simp, by simp, fun h0 => absurd h0 (by simp)⟩, Nat.zero_le _, fun x hx => by cases hx⟩
    · rename_i e' a len cap h1
      simp only [Option.some.injEq, TypeDesc.slice.injEq] at h1
      subst h1
      dsimp only at ht
      split at ht
      case isFalse => cases ht
      rename_i h2
      rw [Option.bind_eq_some_iff] at ht
      obtain ⟨elems, he, ht⟩ := ht
      rw [Option.map_eq_some_iff] at ht
      obtain ⟨rest, hr, ht⟩ := ht
      simp only [Prod.mk.injEq] at ht
      obtain ⟨rfl, rfl⟩ := ht
      have hlen : elems.length = len := by simpa using mapM_some_length he
      have hall : ∀ i, i < len → ∃ x c, c.length = k.sz ∧ k.K W x c ∧ q x ∧ ∀ j u, c[j]? = some u → W.cell? (a.add (i * k.sz + j)) = some u := by
        intro i hi
        have hg := mapM_some_get he i i (by simp [hi])
        obtain ⟨y, hy⟩ : ∃ y, elems[i]? = some y := ⟨elems[i]'(by omega), by simp [hlen, hi]⟩
        rw [hy, Option.bind_eq_some_iff] at hg
        obtain ⟨c, hc, hd⟩ := hg
        obtain ⟨_, hcl, hcc⟩ := World.cells?_some hc
        obtain ⟨yd, yp⟩ := y
        have hwy : ∀ x ∈ DataW.weights P e yd, x ≤ reachBytes := fun x hx => hw x (by
          rw [DataW.weights, hu]
          refine List.mem_cons_of_mem _ (List.mem_append.2 (.inl (weightsAll_mem (List.mem_map.2 ⟨(yd, yp), List.mem_of_getElem? hy, rfl⟩) hx))))
        obtain ⟨x, hx, hq⟩ := h fuel (by omega) c yd yp hd hwy
        refine ⟨x, c, by rw [hcl, hsz], hx, hq, fun j u hu2 => ?_⟩
        have hj : j < P.cellsOf e := by
          rw [← hcl]
          exact (List.getElem?_eq_some_iff.1 hu2).1
        rw [hsz, ← add_add]
        rw [hcc j hj]
        exact hu2
      have hL : ∃ xs : List α, xs.length = len ∧ (∀ x ∈ xs, q x) ∧ ∀ i x, xs[i]? = some x → ∃ c, c.length = k.sz ∧ k.K W x c ∧ ∀ j u, c[j]? = some u → W.cell? (a.add (i * k.sz + j)) = some u := by
        have build : ∀ m, m ≤ len → ∃ xs : List α, xs.length = m ∧ (∀ x ∈ xs, q x) ∧ ∀ i x, xs[i]? = some x → ∃ c, c.length = k.sz ∧ k.K W x c ∧ ∀ j u, c[j]? = some u → W.cell? (a.add (i * k.sz + j)) = some u := by
          intro m
          induction m with
          | zero => intro _; exact ⟨[], rfl, (fun x hx => by cases hx), (fun i x hx => by simp at hx)⟩
          | succ m ih =>
            intro hm
            obtain ⟨xs, h1, h2, h3⟩ := ih (by omega)
            obtain ⟨x, c, hc, hx, hq, hcell⟩ := hall m (by omega)
            refine ⟨xs ++ [x], by simp [h1], ?_, ?_⟩
            · intro y hy
              rcases List.mem_append.1 hy with hy | hy
              · exact h2 y hy
              · rw [List.mem_singleton.1 hy]; exact hq
            · intro i y hy
              by_cases hi : i < xs.length
              · rw [List.getElem?_append_left hi] at hy
                exact h3 i y hy
              · rw [List.getElem?_append_right (by omega)] at hy
                have : i = m := by
                  have := (List.getElem?_eq_some_iff.1 hy).1
                  simp at this
                  omega
                subst this
                rw [h1, Nat.sub_self] at hy
                simp at hy
                subst hy
                exact ⟨c, hc, hx, hcell⟩
        exact build len (Nat.le_refl _)
      obtain ⟨xs, h3, h4, h5⟩ := hL
      have hwl := hw ((elems.length + rest.length) * P.bytesOf e) (by
        rw [DataW.weights, hu]
        simp)
      have hle : xs.length ≤ reachBytes := by
        rw [h3, ← hlen]
        refine Nat.le_trans ?_ hwl
        refine Nat.le_trans (Nat.le_add_right _ rest.length) ?_
        exact Nat.le_mul_of_pos_right _ hb
      have hr63 : reachBytes ≤ 9223372036854775807 := by decide
      exact ⟨xs, ⟨some a, cap, by rw [h3], by rw [h3]; exact h2.2.1, rfl, Nat.le_trans hle hr63, fun _ => ⟨a, rfl, h5⟩⟩, hle, h4⟩

/-- .. the fields of a struct from the cell o on. -/
def OpensFrom {α : Type} (enc : TypeId × Value → H) (P : Program) (W : World) (N : Nat) (o m : Nat) (fs : List Field) (k : Kd α) (q : α → Prop) : Prop :=
  ∀ fuel, fuel ≤ N → ∀ (cs : List Value) (xs : List (DataW H × List MemPlace)), cs.length = m → (fs.mapM fun f => DataW.trod enc P W 0 (fun _ => true) true fuel f.type ((cs.drop f.offset).take (P.cellsOf f.type))) = some xs →
    (∀ x ∈ DataW.weightsEach P (fs.map (·.type)) (xs.map (·.1)), x ≤ reachBytes) → ∃ x, k.K W x (cs.drop o) ∧ q x

theorem OpensFrom.one {α : Type} {N o m : Nat} {f : Field} {k : Kd α} {q : α → Prop} (h : Opens enc P W N f.type k q) (ho : f.offset = o) (hm : m = o + P.cellsOf f.type) : OpensFrom enc P W N o m [f] k q := by
  intro fuel hf cs xs hl ht hw
  rw [List.mapM_cons] at ht
  simp only [List.mapM_nil, bind, pure, Option.bind_eq_some_iff] at ht
  obtain ⟨y, hy, _, h0, h1⟩ := ht
  obtain rfl := (Option.some.inj h0)
  obtain rfl := (Option.some.inj h1)
  obtain ⟨x, hx, hq⟩ := h fuel hf _ y.1 y.2 hy (fun z hz => hw z (by simp [DataW.weightsEach, hz]))
  refine ⟨x, ?_, hq⟩
  rw [ho, List.take_of_length_le (by rw [List.length_drop]; omega)] at hx
  exact hx

theorem OpensFrom.cons {α β : Type} {N o m : Nat} {f : Field} {fs : List Field} {k : Kd α} {k2 : Kd β} {q : α → Prop} {q2 : β → Prop} (h : Opens enc P W N f.type k q) (h2 : OpensFrom enc P W N (o + P.cellsOf f.type) m fs k2 q2) (ho : f.offset = o) :
    OpensFrom enc P W N o m (f :: fs) (Kd.pair k k2) (fun x => q x.1 ∧ q2 x.2) := by
  intro fuel hf cs xs hl ht hw
  rw [List.mapM_cons] at ht
  simp only [bind, pure, Option.bind_eq_some_iff] at ht
  obtain ⟨y, hy, ys, hys, ht⟩ := ht
  simp only [Option.some.injEq] at ht
  subst ht
  obtain ⟨x, hx, hq⟩ := h fuel hf _ y.1 y.2 hy (fun z hz => hw z (by simp [DataW.weightsEach, hz]))
  obtain ⟨x2, hx2, hq2⟩ := h2 fuel hf cs ys hl hys (fun z hz => hw z (by simp [DataW.weightsEach, hz]))
  refine ⟨(x, x2), ⟨_, _, ?_, hx, hx2⟩, hq, hq2⟩
  rw [ho, ← List.drop_drop, List.take_append_drop]

theorem Opens.struct {α : Type} {N : Nat} {t : TypeId} {fs : Array Field} {k : Kd α} {q : α → Prop} (hu : P.underlying t = some (.struct fs)) (h : OpensFrom enc P W N 0 (P.cellsOf t) fs.toList k q) : Opens enc P W (N + 1) t k q := by
  intro fuel hf cs d p ht hw
  cases fuel with
  | zero => simp [DataW.trod] at ht
  | succ fuel =>
    unfold DataW.trod at ht
    rw [hu] at ht
    split at ht <;> try (simp_all; done)
    rename_i fs' h1
    simp only [Option.some.injEq, TypeDesc.struct.injEq] at h1
    subst h1
    split at ht
    case isFalse => cases ht
    rename_i hl
    rw [Option.map_eq_some_iff] at ht
    obtain ⟨xs, hxs, ht⟩ := ht
    simp only [Prod.mk.injEq] at ht
    obtain ⟨rfl, rfl⟩ := ht
    rw [DataW.weights, hu] at hw
    have := h fuel (by omega) _ xs hl hxs hw
    simpa using this

end
end Go.Proofs.YteockihoefbmdaaGreatDoor.Open
namespace Go.Proofs.YteockihoefbmdaaGreatDoor.Open
open Go.RowKit Go.Proofs.YteockihoefbmdaaGreatDoorW.PrintWords Go.Proofs.YteockihoefbmdaaGreatDoor.PFnEncode
set_option linter.unusedVariables false
set_option linter.unusedSimpArgs false
section
variable {H : Type} {enc : TypeId × Value → H} {W : World}
theorem opens_attr (N : Nat) : Opens enc Tryz.prog W (N + 3) 58 k58 (fun _ => True) := by
  have h1 : Opens enc Tryz.prog W (N + 1) 22 (Kd.slice 5 (Kd.int .u8)) _ := Opens.slice (opens_int N Tryz.underlying5) Tryz.underlying22 (by kernel_rfl) (of_decide_eq_true (by kernel_rfl))
  have h2 : Opens enc Tryz.prog W (N + 2) 56 (Kd.slice 22 (Kd.slice 5 (Kd.int .u8))) _ := Opens.slice h1 Tryz.underlying56 (by kernel_rfl) (of_decide_eq_true (by kernel_rfl))
  have hst := Opens.struct (P := Tryz.prog) (enc := enc) (W := W) Tryz.underlying58 (OpensFrom.cons (opens_string (N + 2) Tryz.underlying9) (OpensFrom.one h2 (by kernel_rfl) (by kernel_rfl)) (by kernel_rfl))
  exact (hst.iso (fun x : S58 => (x.f0, x.f1)) (fun y => ⟨y.1, y.2⟩) (fun _ => rfl)).imp (fun _ _ => trivial)
theorem opensA (N : Nat) : Opens enc Tryz.prog W (N + 4) 48 (Kd.slice 58 k58) (fun _ => True) :=
  (Opens.slice (opens_attr N) Tryz.underlying48 (by kernel_rfl) (of_decide_eq_true (by kernel_rfl))).imp (fun _ _ => trivial)
end
end Go.Proofs.YteockihoefbmdaaGreatDoor.Open
