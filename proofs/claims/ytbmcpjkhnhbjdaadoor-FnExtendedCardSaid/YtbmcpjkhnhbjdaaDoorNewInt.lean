/- ber.NewInteger at an int64, an int, a uint64: a packet whose data are the number's bytes. No condition but the kind's own range. -/
import Derived.Test.YtbmcpjkhnhbjdaaDoorNewString
import Derived.Test.YtbmcpjkhnhbjdaaDoorWhole
import Derived.Deep.RegionWith
namespace Go.Proofs.YtbmcpjkhnhbjdaaDoor.Ber
open Go.RowKit Go.Proofs.YtbmcpjkhnhbjdaaDoorW.PrintWords Go.Proofs.YtbmcpjkhnhbjdaaDoor.Buf Go.Proofs.YtbmcpjkhnhbjdaaDoor.Pk Go.Proofs.YtbmcpjkhnhbjdaaDoor.Num
set_option linter.unusedVariables false
set_option linter.unusedSimpArgs false

/-- 'p.Data.Write(row)': a row that the call has just made. -/
theorem write_own {w W : World} {base : Nat} {ok : Nat → Prop} {b : Nat} {x : Pk} {db : Nat} {v bv cv : Value} (P : Parts w base ok b x db v bv cv) (hbase : base ≤ w.heap.size) (hb3 : Below w.heap.size w W) {A : Option Addr} {c : Nat} {ys : List Int} (hr : B8.C W A ys.length ys)
    (hA : ∀ a, A = some a → w.heap.size ≤ a.block) (hlim : x.data.length + ys.length ≤ 140737488355328) :
    Calls Tryd.prog 88 #[.pointer (some ⟨db, 0, none⟩), .slice A ys.length c] W fun e w' => e = .returned (.tuple #[.int .i64 ys.length, .nilIface]) ∧
      ∃ v', Parts w' base (fun k => ok k ∨ w.heap.size ≤ k) b { x with data := x.data ++ ys } db v' bv cv ∧ Only ok w w' := by
  have P3 := P.below hb3
  have hwr := write_row db v x.data ys A c _ P3.buf hr (fun a ha _ => by
    obtain ⟨lr, h4⟩ := P.hd
    have := blk_lt h4
    have := hA a ha
    omega) hlim
  refine hwr.mono fun e w' hw => ?_
  obtain ⟨rfl, ho4, v', P4⟩ := P3.wrote hw (by have := hb3.size; omega)
  exact ⟨rfl, v', ⟨P4.val, Or.inl P.okb, P4.leb, Or.inl P.okd, P4.led, P4.hb, P4.hd, Kd.R_mono P4.rv (fun k hk => hk.imp id (fun h => by have := hb3.size; omega)), Kd.R_mono P4.rb (fun k hk => ⟨hk.1.imp id (fun h => by have := hb3.size; omega), hk.2⟩),
    Kd.R_mono P4.rk (fun k hk => ⟨hk.1.imp id (fun h => by have := hb3.size; omega), hk.2⟩)⟩, (Only.of_below ok hb3).trans ho4 (fun _ _ h => h)⟩

/-- A row of the call's own that was made since W's beginning lies in a new block. -/
theorem own_new {w : World} {base : Nat} {ok : Nat → Prop} {v : Value} {ys : List Int} (h : B8.R 5 w base ok v ys) : ∃ A c, v = .slice A ys.length c ∧ B8.C w A ys.length ys ∧ ∀ a, A = some a → base ≤ a.block := by
  obtain ⟨A, c, rfl, _, hr⟩ := Kd.R_reads h
  refine ⟨A, c, rfl, hr, ?_⟩
  rintro a rfl
  exact own_base (int_own h) a.block rfl

theorem ta_i64_int (n : Int) : ∀ w : World, (Instr.typeAssert (.iface 2 (.int .i64 n)) 20 3 true).run Tryd.prog w = .ok (.tuple #[.int .i64 0, .bool false]) w := fun _ => by kernel_rfl
theorem ta_i64_uint (n : Int) : ∀ w : World, (Instr.typeAssert (.iface 2 (.int .i64 n)) 20 109 true).run Tryd.prog w = .ok (.tuple #[.int .u64 0, .bool false]) w := fun _ => by kernel_rfl
theorem ta_i64_hit (n : Int) : ∀ w : World, (Instr.typeAssert (.iface 2 (.int .i64 n)) 20 2 true).run Tryd.prog w = .ok (.tuple #[.int .i64 n, .bool true]) w := fun _ => by kernel_rfl

set_option maxHeartbeats 6400000 in
set_option maxRecDepth 100000 in
theorem newInt_i64 (cls typ tag n : Int) (desc : ByteArray) (w : World) (hn : -9223372036854775808 ≤ n ∧ n ≤ 9223372036854775807) :
    Calls Tryd.prog 103 #[.int .u8 cls, .int .u8 typ, .int .u64 tag, .iface 2 (.int .i64 n), .string desc] w fun e w' => Made w (prim cls typ tag (.iface 2 (.int .i64 n)) (whole n) desc) e w' := by
  go_enter Tryd.func103, Tryd.ntmps103
  go_wp2_with (go_at_call 87; refine (encode_nil _ _ _ _ _).mono ?_)
  rintro e W1 ⟨b, rfl, hI, hB1⟩
  obtain ⟨db, v, bv, cv, P⟩ := parts_of hI.bound
  obtain ⟨P2, ho2⟩ := P.setVal (.iface 2 (.int .i64 n)) rfl
  have c3 : W1.cell? ⟨b, 3, none⟩ = some .nilIface := P.cell 3
  have f3 := P.frozen 3
  have c5 : (W1.setCell ⟨b, 3, none⟩ (.iface 2 (.int .i64 n))).cell? ⟨b, 5, none⟩ = some (.pointer (some ⟨db, 0, none⟩)) := P2.cell 5
  have hB2 : Below w.heap.size w (W1.setCell ⟨b, 3, none⟩ (.iface 2 (.int .i64 n))) := hB1.setCell (p := ⟨b, 3, none⟩) P.leb _
  have HB2 := Lib.hid hB2
  have HP2 := Lib.hid P2
  clear P P2 hI hB1 hB2 ho2
  have t0 := ta_i64_int n
  have t1 := ta_i64_uint n
  have t2 := ta_i64_hit n
  go_wp2_with fail
  have HHN := Lib.hid hn
  clear hn t0 t1 t2
  go_region_with (first
    | (go_at_call 109
       refine (encInt_any n HHN.out _).mono ?_
       rintro e W3 ⟨v3, rfl, hR3, hb3⟩
       obtain ⟨A, c, rfl, hr3, hA⟩ := own_new hR3
       have hb4 : Below (W1.setCell ⟨b, 3, none⟩ (.iface 2 (.int .i64 n))).heap.size (W1.setCell ⟨b, 3, none⟩ (.iface 2 (.int .i64 n))) W3 := ⟨hb3.os, hb3.tape, hb3.output, hb3.size, hb3.block⟩
       have d5 : W3.cell? ⟨b, 5, none⟩ = some (.pointer (some ⟨db, 0, none⟩)) := (HP2.out.below hb4).cell 5
       have HW := Lib.hid (write_own HP2.out HB2.out.size hb4 hr3 (c := c) hA (by have := wl_le8 n HHN.out; simp [bare, whole, be_length]; omega))
       clear hR3 hr3 hA hb3 hb4)
    | (go_at_call 88
       refine HW.out.mono ?_
       rintro e W4 ⟨rfl, v', P4, ho4⟩))
  all_goals (
    go_wp2
    go_ret
    exact made_intro rfl P4 (HB2.out.trans (ho4.below HB2.out.size (fun i hi => hi.2.1))))

theorem ta_int_hit (n : Int) : ∀ w : World, (Instr.typeAssert (.iface 3 (.int .i64 n)) 20 3 true).run Tryd.prog w = .ok (.tuple #[.int .i64 n, .bool true]) w := fun _ => by kernel_rfl

set_option maxHeartbeats 6400000 in
set_option maxRecDepth 100000 in
theorem newInt_int (cls typ tag n : Int) (desc : ByteArray) (w : World) (hn : -9223372036854775808 ≤ n ∧ n ≤ 9223372036854775807) :
    Calls Tryd.prog 103 #[.int .u8 cls, .int .u8 typ, .int .u64 tag, .iface 3 (.int .i64 n), .string desc] w fun e w' => Made w (prim cls typ tag (.iface 3 (.int .i64 n)) (whole n) desc) e w' := by
  go_enter Tryd.func103, Tryd.ntmps103
  go_wp2_with (go_at_call 87; refine (encode_nil _ _ _ _ _).mono ?_)
  rintro e W1 ⟨b, rfl, hI, hB1⟩
  obtain ⟨db, v, bv, cv, P⟩ := parts_of hI.bound
  obtain ⟨P2, ho2⟩ := P.setVal (.iface 3 (.int .i64 n)) rfl
  have c3 : W1.cell? ⟨b, 3, none⟩ = some .nilIface := P.cell 3
  have f3 := P.frozen 3
  have c5 : (W1.setCell ⟨b, 3, none⟩ (.iface 3 (.int .i64 n))).cell? ⟨b, 5, none⟩ = some (.pointer (some ⟨db, 0, none⟩)) := P2.cell 5
  have hB2 : Below w.heap.size w (W1.setCell ⟨b, 3, none⟩ (.iface 3 (.int .i64 n))) := hB1.setCell (p := ⟨b, 3, none⟩) P.leb _
  have HB2 := Lib.hid hB2
  have HP2 := Lib.hid P2
  clear P P2 hI hB1 hB2 ho2
  have t0 := ta_int_hit n
  go_wp2_with fail
  have HHN := Lib.hid hn
  clear hn t0
  go_region_with (first
    | (go_at_call 109
       refine (encInt_any n HHN.out _).mono ?_
       rintro e W3 ⟨v3, rfl, hR3, hb3⟩
       obtain ⟨A, c, rfl, hr3, hA⟩ := own_new hR3
       have hb4 : Below (W1.setCell ⟨b, 3, none⟩ (.iface 3 (.int .i64 n))).heap.size (W1.setCell ⟨b, 3, none⟩ (.iface 3 (.int .i64 n))) W3 := ⟨hb3.os, hb3.tape, hb3.output, hb3.size, hb3.block⟩
       have d5 : W3.cell? ⟨b, 5, none⟩ = some (.pointer (some ⟨db, 0, none⟩)) := (HP2.out.below hb4).cell 5
       have HW := Lib.hid (write_own HP2.out HB2.out.size hb4 hr3 (c := c) hA (by have := wl_le8 n HHN.out; simp [bare, whole, be_length]; omega))
       clear hR3 hr3 hA hb3 hb4)
    | (go_at_call 88
       refine HW.out.mono ?_
       rintro e W4 ⟨rfl, v', P4, ho4⟩))
  all_goals (
    go_wp2
    go_ret
    exact made_intro rfl P4 (HB2.out.trans (ho4.below HB2.out.size (fun i hi => hi.2.1))))

theorem ta_u64_int (n : Int) : ∀ w : World, (Instr.typeAssert (.iface 122 (.int .u64 n)) 20 3 true).run Tryd.prog w = .ok (.tuple #[.int .i64 0, .bool false]) w := fun _ => by kernel_rfl
theorem ta_u64_uint (n : Int) : ∀ w : World, (Instr.typeAssert (.iface 122 (.int .u64 n)) 20 109 true).run Tryd.prog w = .ok (.tuple #[.int .u64 0, .bool false]) w := fun _ => by kernel_rfl
theorem ta_u64_int64 (n : Int) : ∀ w : World, (Instr.typeAssert (.iface 122 (.int .u64 n)) 20 2 true).run Tryd.prog w = .ok (.tuple #[.int .i64 0, .bool false]) w := fun _ => by kernel_rfl
theorem ta_u64_hit (n : Int) : ∀ w : World, (Instr.typeAssert (.iface 122 (.int .u64 n)) 20 122 true).run Tryd.prog w = .ok (.tuple #[.int .u64 n, .bool true]) w := fun _ => by kernel_rfl

set_option maxHeartbeats 6400000 in
set_option maxRecDepth 100000 in
theorem newInt_u64 (cls typ tag n : Int) (desc : ByteArray) (w : World) (hn : 0 ≤ n ∧ n ≤ 9223372036854775807) :
    Calls Tryd.prog 103 #[.int .u8 cls, .int .u8 typ, .int .u64 tag, .iface 122 (.int .u64 n), .string desc] w fun e w' => Made w (prim cls typ tag (.iface 122 (.int .u64 n)) (whole n) desc) e w' := by
  go_enter Tryd.func103, Tryd.ntmps103
  go_wp2_with (go_at_call 87; refine (encode_nil _ _ _ _ _).mono ?_)
  rintro e W1 ⟨b, rfl, hI, hB1⟩
  obtain ⟨db, v, bv, cv, P⟩ := parts_of hI.bound
  obtain ⟨P2, ho2⟩ := P.setVal (.iface 122 (.int .u64 n)) rfl
  have c3 : W1.cell? ⟨b, 3, none⟩ = some .nilIface := P.cell 3
  have f3 := P.frozen 3
  have c5 : (W1.setCell ⟨b, 3, none⟩ (.iface 122 (.int .u64 n))).cell? ⟨b, 5, none⟩ = some (.pointer (some ⟨db, 0, none⟩)) := P2.cell 5
  have hB2 : Below w.heap.size w (W1.setCell ⟨b, 3, none⟩ (.iface 122 (.int .u64 n))) := hB1.setCell (p := ⟨b, 3, none⟩) P.leb _
  have HB2 := Lib.hid hB2
  have HP2 := Lib.hid P2
  clear P P2 hI hB1 hB2 ho2
  have t0 := ta_u64_int n
  have t1 := ta_u64_uint n
  have t2 := ta_u64_int64 n
  have t3 := ta_u64_hit n
  have hwn : IntKind.i64.wrap n = n := IntWalk.i64_in _ (by omega)
  go_wp2_with fail
  have HHN := Lib.hid hn
  clear hn t0 t1 t2 t3
  go_region_with (first
    | (go_at_call 109
       refine (encInt_any n ⟨by have := HHN.out; omega, HHN.out.2⟩ _).mono ?_
       rintro e W3 ⟨v3, rfl, hR3, hb3⟩
       obtain ⟨A, c, rfl, hr3, hA⟩ := own_new hR3
       have hb4 : Below (W1.setCell ⟨b, 3, none⟩ (.iface 122 (.int .u64 n))).heap.size (W1.setCell ⟨b, 3, none⟩ (.iface 122 (.int .u64 n))) W3 := ⟨hb3.os, hb3.tape, hb3.output, hb3.size, hb3.block⟩
       have d5 : W3.cell? ⟨b, 5, none⟩ = some (.pointer (some ⟨db, 0, none⟩)) := (HP2.out.below hb4).cell 5
       have HW := Lib.hid (write_own HP2.out HB2.out.size hb4 hr3 (c := c) hA (by have := wl_le8 n ⟨by have := HHN.out; omega, HHN.out.2⟩; simp [bare, whole, be_length]; omega))
       clear hR3 hr3 hA hb3 hb4)
    | (go_at_call 88
       refine HW.out.mono ?_
       rintro e W4 ⟨rfl, v', P4, ho4⟩))
  all_goals (
    go_wp2
    go_ret
    exact made_intro rfl P4 (HB2.out.trans (ho4.below HB2.out.size (fun i hi => hi.2.1))))

end Go.Proofs.YtbmcpjkhnhbjdaaDoor.Ber
