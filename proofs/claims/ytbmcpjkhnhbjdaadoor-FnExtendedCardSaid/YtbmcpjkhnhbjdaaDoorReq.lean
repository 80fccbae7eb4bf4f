/- Small packets: whole numbers and truth values of the package; what may stand in an operation. -/
import Derived.Test.YtbmcpjkhnhbjdaaDoorOper
import Derived.Test.YtbmcpjkhnhbjdaaDoorSpecB
import Derived.Test.YtbmcpjkhnhbjdaaDoorSame
import Derived.Test.YtbmcpjkhnhbjdaaDoorUnpk
import Derived.StillTailTactics
namespace Go.Proofs.YtbmcpjkhnhbjdaaDoor.Ber
open Go.RowKit Go.Proofs.YtbmcpjkhnhbjdaaDoorW.PrintWords Go.Proofs.YtbmcpjkhnhbjdaaDoor.PFnEncode Go.Proofs.YtbmcpjkhnhbjdaaDoor.Tree Go.Proofs.YtbmcpjkhnhbjdaaDoor.Buf Go.Proofs.YtbmcpjkhnhbjdaaDoor.Pk Go.Proofs.YtbmcpjkhnhbjdaaDoor.Within Go.Proofs.YtbmcpjkhnhbjdaaDoor.Num
set_option linter.unusedVariables false
set_option linter.unusedSimpArgs false

theorem intI_at (cls typ tag n : Int) (desc : ByteArray) (w : World) (hn : -9223372036854775808 ≤ n ∧ n ≤ 9223372036854775807) :
    Calls Tryd.prog 103 #[.int .u8 cls, .int .u8 typ, .int .u64 tag, .iface 3 (.int .i64 n), .string desc] w fun e w' => ∃ q, e = .returned (.pointer (some ⟨q, 0, none⟩)) ∧ At w' w' w.heap.size q (prim cls typ tag (.iface 3 (.int .i64 n)) (whole n) desc) ∧ Below w.heap.size w w' :=
  (newInt_int cls typ tag n desc w hn).mono fun _ _ h => h.at
theorem intU_at (cls typ tag n : Int) (desc : ByteArray) (w : World) (hn : 0 ≤ n ∧ n ≤ 9223372036854775807) :
    Calls Tryd.prog 103 #[.int .u8 cls, .int .u8 typ, .int .u64 tag, .iface 122 (.int .u64 n), .string desc] w fun e w' => ∃ q, e = .returned (.pointer (some ⟨q, 0, none⟩)) ∧ At w' w' w.heap.size q (prim cls typ tag (.iface 122 (.int .u64 n)) (whole n) desc) ∧ Below w.heap.size w w' :=
  (newInt_u64 cls typ tag n desc w hn).mono fun _ _ h => h.at
theorem fine_prim (cls typ tag : Int) (val : Value) (data : List Int) (desc : ByteArray) (h0 : 0 ≤ cls) (h1 : cls ≤ 192) (h2 : cls % 64 = 0) (h3 : typ = 0 ∨ typ = 32) (h4 : 0 ≤ tag) (h5 : tag < 268435456) {n : Nat} (hn : data.length ≤ n) : Fine (prim cls typ tag val data desc) n := ⟨prim_top cls typ tag val data desc h0 h1 h2 h3 h4 h5 hn, okL_nil⟩
theorem whole_len (n : Int) (h : -9223372036854775808 ≤ n ∧ n ≤ 9223372036854775807) : (whole n).length ≤ 8 := by
  have := wl_le8 n h
  rw [whole, be_length]
  exact this
theorem whole3 : whole 3 = [3] := by rw [whole, wl_small (by decide), be_one]; rfl
theorem whole0 : whole 0 = [0] := by rw [whole, wl_small (by decide), be_one]; rfl
theorem bytes_nil (s : ByteArray) (h : s.size = 0) : bytesOf s = [] := List.eq_nil_of_length_eq_zero (by rw [bytesOf_length]; exact h)

set_option maxHeartbeats 6400000 in
set_option maxRecDepth 100000 in
theorem newBool_false (cls typ tag : Int) (desc : ByteArray) (w : World) :
    Calls Tryd.prog 136 #[.int .u8 cls, .int .u8 typ, .int .u64 tag, .bool false, .string desc] w fun e w' => Made w (prim cls typ tag (.iface 4 (.bool false)) (whole 0) desc) e w' := by
  go_enter Tryd.func136, Tryd.ntmps136
  go_wp2_with (go_at_call 87; refine (encode_nil _ _ _ _ _).mono ?_)
  rintro e W1 ⟨b, rfl, hI, hB1⟩
  obtain ⟨db, v, bv, cv, P⟩ := parts_of hI.bound
  obtain ⟨P2, ho2⟩ := P.setVal (.iface 4 (.bool false)) rfl
  have c3 : W1.cell? ⟨b, 3, none⟩ = some .nilIface := P.cell 3
  have f3 := P.frozen 3
  have c5 : (W1.setCell ⟨b, 3, none⟩ (.iface 4 (.bool false))).cell? ⟨b, 5, none⟩ = some (.pointer (some ⟨db, 0, none⟩)) := P2.cell 5
  have hB2 : Below w.heap.size w (W1.setCell ⟨b, 3, none⟩ (.iface 4 (.bool false))) := hB1.setCell (p := ⟨b, 3, none⟩) P.leb _
  have HB2 := Lib.hid hB2
  have HP2 := Lib.hid P2
  clear P P2 hI hB1 hB2 ho2
  go_wp2_with fail
  go_region_with (first
    | (go_at_call 109
       refine (encInt_any 0 (by decide) _).mono ?_
       rintro e W3 ⟨v3, rfl, hR3, hb3⟩
       obtain ⟨A, c, rfl, hr3, hA⟩ := own_new hR3
       have hb4 : Below (W1.setCell ⟨b, 3, none⟩ (.iface 4 (.bool false))).heap.size (W1.setCell ⟨b, 3, none⟩ (.iface 4 (.bool false))) W3 := ⟨hb3.os, hb3.tape, hb3.output, hb3.size, hb3.block⟩
       have d5 : W3.cell? ⟨b, 5, none⟩ = some (.pointer (some ⟨db, 0, none⟩)) := (HP2.out.below hb4).cell 5
       have HW := Lib.hid (write_own HP2.out HB2.out.size hb4 hr3 (c := c) hA (by have := whole_len 0 (by decide); simp [bare]; omega))
       clear hR3 hr3 hA hb3 hb4)
    | (go_at_call 88
       refine HW.out.mono ?_
       rintro e W4 ⟨rfl, v', P4, ho4⟩))
  all_goals (
    go_wp2
    go_ret
    exact made_intro rfl P4 (HB2.out.trans (ho4.below HB2.out.size (fun i hi => hi.2.1))))
theorem boolF_at (cls typ tag : Int) (desc : ByteArray) (w : World) :
    Calls Tryd.prog 136 #[.int .u8 cls, .int .u8 typ, .int .u64 tag, .bool false, .string desc] w fun e w' => ∃ q, e = .returned (.pointer (some ⟨q, 0, none⟩)) ∧ At w' w' w.heap.size q (prim cls typ tag (.iface 4 (.bool false)) (whole 0) desc) ∧ Below w.heap.size w w' :=
  (newBool_false cls typ tag desc w).mono fun _ _ h => h.at
end Go.Proofs.YtbmcpjkhnhbjdaaDoor.Ber
