/- ber.NewString: a packet whose data is the string. The string's length is at most Go's own limit. -/
import Derived.Test.YtkegpljmfgjkaaaDoorMake
import Derived.Deep.DeepFit
namespace Go.Proofs.YtkegpljmfgjkaaaDoor.Ber
open Go.RowKit Go.Proofs.YtkegpljmfgjkaaaDoorW.PrintWords Go.Proofs.YtkegpljmfgjkaaaDoor.Buf Go.Proofs.YtkegpljmfgjkaaaDoor.Pk
set_option linter.unusedVariables false
set_option linter.unusedSimpArgs false

/-- A packet that holds bytes. -/
def prim (cls typ tag : Int) (val : Value) (data : List Int) (desc : ByteArray) : Pk := ⟨cls, typ, tag, val, [], data, [], desc⟩

/-- the string value in an interface -/
abbrev strV (s : ByteArray) : Value := .iface 9 (.string s)

theorem conv_bytes (s : ByteArray) : ∀ W : World, (convert 9 22 (.string s)).run Tryd.prog W = .ok (.slice (some ⟨W.heap.size, 0, none⟩) s.size (grownCap W s.size 0 5)) (Lib.bytesWorld W 5 s) :=
  fun W => print_bytes (P := Tryd.prog) 9 22 5 Tryd.underlying9 Tryd.underlying22 Tryd.underlying5 s W

/-- 'p.Data.Write([]byte(s))', behind the conversion. -/
theorem write_conv {W : World} {base : Nat} {ok : Nat → Prop} {b : Nat} {x : Pk} {db : Nat} {v bv cv : Value} (P : Parts W base ok b x db v bv cv) (hbase : base ≤ W.heap.size) (s : ByteArray) (N c : Nat) (hN : N = W.heap.size) (hlim : x.data.length + s.size ≤ 140737488355328) :
    Calls Tryd.prog 158 #[.pointer (some ⟨db, 0, none⟩), .slice (some ⟨N, 0, none⟩) s.size c] (Lib.bytesWorld W 5 s) fun e w' => e = .returned (.tuple #[.int .i64 s.size, .nilIface]) ∧
      ∃ v', Parts w' base (fun k => ok k ∨ W.heap.size ≤ k) b { x with data := x.data ++ bytesOf s } db v' bv cv ∧ Only ok W w' := by
  subst hN
  have hb3 : Below W.heap.size W (Lib.bytesWorld W 5 s) := bytes_below (Below.refl _ _) (Nat.le_refl _) _ _
  have P3 := P.below hb3
  have hrd : B8.C (Lib.bytesWorld W 5 s) (some ⟨W.heap.size, 0, none⟩) (bytesOf s).length (bytesOf s) := by
    rw [bytesOf_length]
    exact Kd.C_of_reads (d := 0) (bytes_reads W 5 s (by omega))
  have hwr := write_row db v x.data (bytesOf s) _ c _ P3.buf hrd (fun a ha _ => by
    injection ha with ha; subst ha
    obtain ⟨lr, h4⟩ := P.hd
    have := blk_lt h4
    show W.heap.size ≠ db
    omega) (by rw [bytesOf_length]; exact hlim)
  rw [bytesOf_length] at hwr
  refine hwr.mono fun e w' hw => ?_
  obtain ⟨rfl, ho4, v', P4⟩ := P3.wrote hw (by have := hb3.size; omega)
  exact ⟨rfl, v', ⟨P4.val, Or.inl P.okb, P4.leb, Or.inl P.okd, P4.led, P4.hb, P4.hd, Kd.R_mono P4.rv (fun k hk => hk.imp id (fun h => by have := hb3.size; omega)), Kd.R_mono P4.rb (fun k hk => ⟨hk.1.imp id (fun h => by have := hb3.size; omega), hk.2⟩),
    Kd.R_mono P4.rk (fun k hk => ⟨hk.1.imp id (fun h => by have := hb3.size; omega), hk.2⟩)⟩, (Only.of_below ok hb3).trans ho4 (fun _ _ h => h)⟩

set_option maxHeartbeats 3200000 in
set_option maxRecDepth 100000 in
theorem newString_any (cls typ tag : Int) (s desc : ByteArray) (w : World) (hs : s.size ≤ 140737488355328) :
    Calls Tryd.prog 143 #[.int .u8 cls, .int .u8 typ, .int .u64 tag, .string s, .string desc] w fun e w' => Made w (prim cls typ tag (strV s) (bytesOf s) desc) e w' := by
  have hcv := conv_bytes s
  go_enter Tryd.func143, Tryd.ntmps143
  go_wp2_with (go_at_call 157; refine (encode_nil _ _ _ _ _).mono ?_)
  rintro e W1 ⟨b, rfl, hI, hB1⟩
  obtain ⟨db, v, bv, cv, P⟩ := parts_of hI.bound
  obtain ⟨P2, ho2⟩ := P.setVal (strV s) rfl
  have c3 : W1.cell? ⟨b, 3, none⟩ = some .nilIface := P.cell 3
  have f3 := P.frozen 3
  have c5 : (W1.setCell ⟨b, 3, none⟩ (strV s)).cell? ⟨b, 5, none⟩ = some (.pointer (some ⟨db, 0, none⟩)) := P2.cell 5
  have hB2 : Below w.heap.size w (W1.setCell ⟨b, 3, none⟩ (strV s)) := hB1.setCell (p := ⟨b, 3, none⟩) P.leb _
  have hwr := write_conv P2 hB2.size s W1.heap.size (grownCap (W1.setCell ⟨b, 3, none⟩ (strV s)) s.size 0 5) (by simp) (by simpa [bare] using hs)
  have HB2 := Lib.hid hB2
  clear P P2 hI hB1 hB2 ho2
  go_wp2_with (go_at_call 158; refine hwr.mono ?_; rintro e W4 ⟨rfl, v', P4, ho4⟩)
  go_ret
  exact made_intro rfl P4 (HB2.out.trans (ho4.below HB2.out.size (fun i hi => hi.2.1)))
end Go.Proofs.YtkegpljmfgjkaaaDoor.Ber
