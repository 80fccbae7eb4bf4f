/- Parts of the proof of one law, in the order in which they build. ber.readPacket at primitive packets. · ber.readPacket at all packets, whole or cut. · impl.packet: a packet of the call's own is read as data, in new memory. · impl.packet at packets with packets in them. · A *bytes.Reader is a reader; ber.ReadPacket. -/
import Derived.BigRegion
import Derived.Deep.RegionLaw
import Derived.Deep.DrawnRows
import Derived.Deep.RegionWith
import Derived.Test.YteockihoefbmdaaGreatDoorEty1
import Derived.Test.YteockihoefbmdaaGreatDoorEty2
import Derived.Test.YteockihoefbmdaaGreatDoorEty3
import Derived.Test.YteockihoefbmdaaGreatDoorEty4
import Derived.Test.YteockihoefbmdaaGreatDoorEty5
import Derived.Test.YteockihoefbmdaaGreatDoorEty6
import Derived.Test.YteockihoefbmdaaGreatDoorEty7
import Derived.Test.YteockihoefbmdaaGreatDoorEty8
import Derived.Test.YteockihoefbmdaaGreatDoorEty9
namespace Go.Proofs.YteockihoefbmdaaGreatDoor.Ber
open Go.RowKit Go.Proofs.YteockihoefbmdaaGreatDoorW.PrintWords Go.Proofs.YteockihoefbmdaaGreatDoorW.PrintLast Go.Proofs.YteockihoefbmdaaGreatDoor.Buf Go.Proofs.YteockihoefbmdaaGreatDoor.Pk Go.Proofs.YteockihoefbmdaaGreatDoor.Tree Go.Proofs.YteockihoefbmdaaGreatDoor.Num Go.Proofs.YteockihoefbmdaaGreatDoor.Ident Go.Proofs.YteockihoefbmdaaGreatDoor.PFnEncode
set_option linter.unusedVariables false
set_option linter.unusedSimpArgs false

section
variable {T F : Nat} {r : Value} {g B : Nat} {va ua : Addr} {Q : World → List Int → Prop}
theorem blk_lt0 {S : Nat → Prop} {w w' : World} (h : Only S w w') {i : Nat} (hi : i < w.heap.size) : i < w'.heap.size := Nat.lt_of_lt_of_le hi h.size
/-- the contents are read; the packet stands without data -/
structure Got5 (Q : World → List Int → Prop) (g : Nat) (W W2 : World) (l : List Int) (k nn : Nat) (cl ty b : Int) (p : Nat) (w' : World) (Av : Option Addr) (nl cv : Nat) : Prop where
  row : B8.R 5 w' (W2.heap.size) (fun _ => True) (.slice Av nl cv) ((l.drop k).take nn)
  q : Q w' (l.drop (k + nn))
  pk : IsPk w' W.heap.size (fun i => i < W2.heap.size) p (bare cl ty b .nilIface ⟨#[]⟩)
  on : Only (fun i => i = g) W w'
  le : W.heap.size ≤ W2.heap.size
  le2 : W2.heap.size ≤ w'.heap.size
theorem got5 (R : RdSpec T F r g B va ua Q) {W W2 W3 : World} {l : List Int} {k nn : Nat} {cl ty b n2 : Int} {p : Nat} (hB : B ≤ W.heap.size) (hI : IsPk W2 W.heap.size (fun _ => True) p (bare cl ty b .nilIface ⟨#[]⟩)) (hO : Only (fun i => i = g) W W2) (hQ : Q W2 (l.drop k)) (hn2 : n2 = (nn : Int)) (hnn : nn < 4294967296) (hll : l.length < 1099511627776)
    (hW3 : W3 = W2.alloc (.cells #[.iface T r, .int .i64 n2] 285)) :
    Calls Tryz.prog 125 #[.iface 283 (.pointer (some ⟨W2.heap.size, 0, none⟩))] W3 fun e w' => ∃ Av cv nl, e = .returned (.tuple #[.slice Av nl cv, .nilIface]) ∧ nl = ((l.drop k).take nn).length ∧ Got5 Q g W W2 l k nn cl ty b p w' Av nl cv := by
  have hb3 : Below W2.heap.size W2 W3 := by rw [hW3]; exact below_alloc (Below.refl _ _) _
  have hL : AtLim W3 W2.heap.size T r nn := by
    unfold AtLim
    rw [hW3, ← hn2]
    exact blk_new _ _
  have hgW : g < W.heap.size := Nat.lt_of_lt_of_le R.lt hB
  refine (readAll_any R W3 (l.drop k) W2.heap.size nn hL (R.keep W2 W3 _ hQ (fun i hi => hb3.block i (by have := hO.size; omega))) hnn (by have := hO.size; omega) (by rw [List.length_drop]; omega)).mono ?_
  rintro e w' ⟨v, he, hR, hq, ho⟩
  obtain ⟨Av, cv, hv⟩ := Kd.R_slice hR
  subst hv
  have hs := hb3.size
  rw [List.drop_drop] at hq
  refine ⟨Av, cv, _, he, rfl, Kd.R_lower hR hs, hq, ?_, ?_, hO.size, Nat.le_trans hs ho.size⟩
  · have h1 := (hI.bound.below hb3)
    refine (h1.only ho (fun i h2 h3 => ?_)).mono (fun i h2 => h2.2.2)
    rcases h3 with h3 | h3
    · have := h2.2.1; omega
    · have := h2.2.2; omega
  · refine (hO.trans (Only.of_below (fun i => i = g) hb3) (fun i _ h => h)).trans ho ?_
    rintro i hi (h | h)
    · exact h
    · have := hO.size; omega
theorem got0 (R : RdSpec T F r g B va ua Q) {W W2 W5 : World} {l : List Int} {k nn : Nat} {cl ty b : Int} {p : Nat} (hB : B ≤ W.heap.size) (hI : IsPk W2 W.heap.size (fun _ => True) p (bare cl ty b .nilIface ⟨#[]⟩)) (hO : Only (fun i => i = g) W W2) (hQ : Q W2 (l.drop k)) (hnn : nn = 0)
    (hW5 : W5 = W2.alloc (.cells #[] 5)) : Got5 Q g W W2 l k nn cl ty b p W5 (some ⟨W2.heap.size, 0, none⟩) 0 0 := by
  have hb : Below W2.heap.size W2 W5 := by rw [hW5]; exact below_alloc (Below.refl _ _) _
  subst hnn
  refine ⟨?_, R.keep W2 W5 _ hQ (fun i hi => hb.block i (by have := hO.size; omega)), (hI.bound.below hb).mono (fun i h => h.2.2), hO.trans (Only.of_below (fun i => i = g) hb) (fun i _ h => h), hO.size, hb.size⟩
  rw [List.take_zero]
  refine own_int ⟨rfl, .inr ⟨W2.heap.size, 0, #[], rfl, Nat.le_refl _, by rw [hW5]; exact blk_new _ _, by simp, by unfold maxLen; omega, rfl, rfl⟩⟩ (fun _ _ => trivial)
theorem write_ds {W W2 W5 : World} {l : List Int} {k nn : Nat} {cl ty b : Int} {p : Nat} {Av : Option Addr} {nl cv db : Nat} {v5 bv5 cv5 : Value} {ds : List Int} (G : Got5 Q g W W2 l k nn cl ty b p W5 Av nl cv) (P5 : Parts W5 W.heap.size (fun i => i < W2.heap.size) p (bare cl ty b .nilIface ⟨#[]⟩) db v5 bv5 cv5) (hds : ds = (l.drop k).take nn) (hnl : nl = ((l.drop k).take nn).length) (hdl : ds.length = nn ∧ nn ≤ 1000000) :
    Calls Tryz.prog 107 #[.pointer (some ⟨db, 0, none⟩), .slice Av nl cv] W5 fun e w' => ∃ u, e = .returned u ∧ Only (fun i => W.heap.size ≤ i) W5 w' ∧ ∃ v6 bv6 cv6, Parts w' W.heap.size (fun _ => True) p ⟨cl, ty, b, .nilIface, [], ds, [], ⟨#[]⟩⟩ db v6 bv6 cv6 ∧ B8.R 5 w' W.heap.size (fun i => True ∧ some i ≠ v6.ownBlock) (.slice Av nl cv) ds := by
  have hrow := G.row
  rw [← hds] at hnl hrow
  subst hnl
  obtain ⟨A', c', hv, hl, hC⟩ := Kd.R_reads hrow
  injection hv with hA hn hc
  subst hA hc
  have hWs : W.heap.size ≤ W5.heap.size := Nat.le_trans G.le G.le2
  refine (write_row db v5 [] ds Av cv W5 P5.buf hC ?_ (by simp; omega)).mono ?_
  · rintro a rfl _ h
    have h1 := Kd.R_base hrow a.block (by simp [Value.ownBlock])
    have h2 := P5.okd
    omega
  · rintro e w' hw
    obtain ⟨rfl, hO, v', hP⟩ := P5.wrote hw hWs
    refine ⟨_, rfl, ?_, v', bv5, cv5, hP.okmono (fun _ _ => trivial), ?_⟩
    · have h1 := hO
      obtain ⟨hn, v2, hbuf, hr2, hon⟩ := hw
      refine hon.mono ?_
      rintro i hi (rfl | h)
      · exact P5.led
      · exact own_base (int_own P5.rv) i h.symm
    · have hkeep : ∀ i, W2.heap.size ≤ i → i < W5.heap.size → w'.heap[i]? = W5.heap[i]? := fun i h1 h2 => hO.block i h2 (Nat.not_lt.2 h1)
      refine Kd.R_mono (Kd.R_lower (Kd.R_step (Kd.R_bound hrow) (fun i h1 h2 => hkeep i h1.2.1 h2)) G.le) ?_
      rintro i ⟨_, h1, h2, _⟩
      refine ⟨trivial, fun e => ?_⟩
      rcases hP.rv.1 i e.symm with h | h
      · omega
      · omega
theorem parse_ds {W7 : World} {base p db : Nat} {v6 cv6 : Value} {cl ty b : Int} {ds dt : List Int} {Av : Option Addr} {nl cv : Nat} (P7 : Parts W7 base (fun _ => True) p ⟨cl, ty, b, .nilIface, ds, ds, [], ⟨#[]⟩⟩ db v6 (.slice Av nl cv) cv6) (hds : ds = dt) (hnl : nl = dt.length) (hby : ∀ y ∈ ds, 0 ≤ y ∧ y < 256) (h8 : ds.length ≤ 8) :
    Calls Tryz.prog 89 #[.slice Av nl cv] W7 fun e w' => e = .returned (.tuple #[.int .i64 (sv ds), .nilIface]) ∧ W7 = w' := by
  rw [← hds] at hnl
  subst hnl
  obtain ⟨A', c', hv, hl, hC⟩ := Kd.R_reads P7.rb
  injection hv with hA hn hc
  subst hA
  exact parse_any ds Av cv W7 hC h8 hby
theorem dec_ds {W7 : World} {base p db : Nat} {v6 cv6 : Value} {cl ty b : Int} {ds : List Int} {Av : Option Addr} {nl cv : Nat} (P7 : Parts W7 base (fun _ => True) p ⟨cl, ty, b, .nilIface, ds, ds, [], ⟨#[]⟩⟩ db v6 (.slice Av nl cv) cv6) (hnl : nl = ds.length) :
    Calls Tryz.prog 90 #[.slice Av nl cv] W7 fun e w' => e = .returned (.string (strOfNums ds)) ∧ w' = W7 := by
  subst hnl
  obtain ⟨A', c', hv, hl, hC⟩ := Kd.R_reads P7.rb
  injection hv with hA hn hc
  subst hA
  exact decStr_any ds Av cv W7 hC
set_option maxHeartbeats 6400000 in
set_option maxRecDepth 100000 in
theorem readPk_p1 (R : RdSpec T F r g B va ua Q) (a b : Int) (dd : List Int) (hkp : kp ⟨a, b, false, dd, []⟩) (hgood : good ⟨a, b, false, dd, []⟩ = true) (hts : tsize ⟨a, b, false, dd, []⟩ ≤ 1000000) (W : World) (l m : List Int) (k nn : Nat) (depth : Int) (hQ : Q W l) (hB : B ≤ W.heap.size) (hh : hdrB (l ++ m) = some (a, false, b, (nn : Int), k)) (hkn : k + nn ≤ (l ++ m).length) (hx : ∀ y ∈ l ++ m, 0 ≤ y ∧ y < 256) (hlm : (l ++ m).length ≤ 1000000) (h0 : 0 ≤ depth) (h1000 : depth < 1000) (hdd : dd = ((l ++ m).drop k).take nn) (hk : k ≤ l.length) (hw : k + nn ≤ l.length) (hz : nn ≠ 0) (ha : a = 0) (hb : b = 1) (hl8 : dd.length ≤ 8) :
    Calls Tryz.prog 104 #[.iface T r, .int .i64 depth] W (Rdd g va ua Q W l (k + nn) ⟨a, b, false, dd, []⟩) := by
    have hall := hdrB_all hh hx
    simp only at hall
    have HH := header_any R W l m a b (nn : Int) false k hQ hB hh hx
    obtain ⟨n2, hn2⟩ : ∃ n2 : Int, n2 = (nn : Int) := ⟨_, rfl⟩
    obtain ⟨k2, hk2⟩ : ∃ k2 : Int, k2 = (k : Int) := ⟨_, rfl⟩
    rw [← hn2, ← hk2] at HH
    have hkl := (hdrB_app [] hh).2.2
    simp only at hkl
    have hn0 : 0 ≤ n2 := by omega
    have hn1 : n2 ≤ 1000000 := by omega
    have hk0 : 0 ≤ k2 := by omega
    have hk1 : k2 ≤ 1000000 := by omega
    have hde : decide (depth ≥ 1000) = false := decide_eq_false (by omega)
    have hde2 : decide (1000 ≤ depth) = false := decide_eq_false (by omega)
    have hne : (n2 != -1) = true := by simp; omega
    have hnq : (n2 == -1) = false := by simp; omega
    have hnm2 : decide (2147483647 < n2) = false := decide_eq_false (by omega)
    have hde9 : depth ≤ 1000 := by omega
    obtain ⟨ty, hty⟩ : ∃ ty : Int, ty = 0 := ⟨_, rfl⟩
    obtain ⟨cl, hcl⟩ : ∃ cl : Int, cl = a * 64 := ⟨_, rfl⟩
    rw [if_neg Bool.false_ne_true, ← hty, ← hcl] at HH
    obtain ⟨ds, hds⟩ : ∃ ds, ds = (l.drop k).take nn := ⟨_, rfl⟩
    have HDE : Hid (ds = dd) := Lib.hid (by rw [hds, hdd, List.drop_append_of_le_length hk, List.take_append_of_le_length (by rw [List.length_drop]; omega)])
    have HDL : Hid (ds.length = nn ∧ nn ≤ 1000000) := Lib.hid ⟨by rw [hds, List.length_take, List.length_drop]; omega, by omega⟩
    have HBY : Hid (∀ y ∈ ds, 0 ≤ y ∧ y < 256) := Lib.hid (fun y hy => hx y (List.mem_append_left _ (by rw [hds] at hy; exact List.mem_of_mem_drop (List.mem_of_mem_take hy))))
    have HWH := Lib.hid hw
    have HDS := Lib.hid hds
    have HNN : Hid (n2 = (nn : Int) ∧ True) := Lib.hid ⟨hn2, trivial⟩
    have HA0 : Hid (a = 0) := Lib.hid ha
    have HB0 : Hid (b = 1) := Lib.hid hb
    have hcz : (cl == 0) = true := by simp; omega
    have hb0 : (b == 0) = false := by simp [hb]
    have hb1 : (b == 1) = true := by simp [hb]
    have HL8 : Hid (ds.length ≤ 8) := Lib.hid (by rw [HDE.out]; exact hl8)
    have hz2 : decide (0 < n2) = true := decide_eq_true (by omega)
    clear hw hds hz ha hb hl8
    have HHX : Hid (Calls Tryz.prog 122 #[.iface T r] W fun e w' => e = .returned (.tuple #[.agg #[.int .u8 cl, .int .u8 ty, .int .u64 b], .int .i64 n2, .int .i64 k2, .nilIface]) ∧ Q w' (l.drop k) ∧ Only (fun i => i = g) W w') := Lib.hid (by
      refine HH.mono ?_
      rintro e w' ⟨h1, _, ho⟩
      obtain ⟨he, hq⟩ := h1 hk
      exact ⟨he, hq, ho⟩)
    have hmk := mk_kids2
    have HR := Lib.hid R
    have HXX := Lib.hid hx
    have HHH := Lib.hid hh
    have HALL := Lib.hid hall
    have HN2 := Lib.hid hn2
    have HK2 := Lib.hid hk2
    have HTY := Lib.hid hty
    have HCL := Lib.hid hcl
    have HKL := Lib.hid hk
    have HB := Lib.hid hB
    have HGD := Lib.hid hgood
    have HTS := Lib.hid hts
    have HLM := Lib.hid hlm
    have HKP := Lib.hid hkp
    have HDD := Lib.hid hdd
    have HKN := Lib.hid hkn
    clear hdd hkn
    clear HH hh R hx hkp hQ hall hn2 hk2 hty hcl hk hB hgood hts hlm hkl
    go_enter Tryz.func104, Tryz.ntmps104
    go_upto_region 12 with (go_at_call 122
                            with_reducible refine HHX.out.mono ?_
                            rintro e W1 ⟨rfl, hQ1, hO1⟩
                            have HQ1 := Lib.hid hQ1
                            have HO1 := Lib.hid hO1
                            clear hQ1 hO1)
    obtain ⟨W2, hW2⟩ : ∃ W2, W2 = (((W1.alloc (.cells #[.int .u8 cl, .int .u8 ty, .int .u64 b] 82)).alloc (.cells #[.int .u8 cl, .int .u8 ty, .int .u64 b, .nilIface, .slice none 0 0, .pointer (some ⟨W1.heap.size + 1 + 1, 0, none⟩), .slice (some ⟨W1.heap.size + 1 + 1 + 1, 0, none⟩) 0 2, .string ⟨#[]⟩] 86)).alloc
        (.cells #[.slice none 0 0, .int .i64 0, .int .i8 0] 134)).alloc (.cells #[.pointer none, .pointer none] 72) := ⟨_, rfl⟩
    obtain ⟨hb12, hI2⟩ := laid_pk W1 cl ty b hW2
    obtain ⟨p, hp⟩ : ∃ p, p = W1.heap.size + 1 := ⟨_, rfl⟩
    rw [← hp] at hI2
    rw [← hW2]
    rw [← hp]
    have hs1 := HO1.out.size
    have HI2 : Hid (IsPk W2 W.heap.size (fun _ => True) p (bare cl ty b .nilIface ⟨#[]⟩)) := Lib.hid (hI2.lower hs1)
    have HO2 : Hid (Only (fun i => i = g) W W2) := Lib.hid (HO1.out.trans (Only.of_below (fun i => i = g) hb12) (fun i _ h => h))
    have HQ2 : Hid (Q W2 (l.drop k)) := Lib.hid (HR.out.keep W1 W2 _ HQ1.out (fun i hi => hb12.block i (Nat.lt_of_lt_of_le hi (Nat.le_trans HB.out hs1))))
    have c1 : W2.cell? ⟨p, 1, none⟩ = some (.int .u8 ty) := by
      obtain ⟨db, v, bv, cv, P⟩ := parts_of HI2.out
      exact P.cell 1
    clear hb12 hI2 hp hW2 HQ1 HO1 hs1
    have HE : Hid (∀ W', Q W' [] → Calls Tryz.prog 123 #[(.iface 248 (.pointer (some va)))] W' fun e w' => e = .returned (.iface 248 (.pointer (some ua))) ∧ w' = W') := Lib.hid (fun W' h => eof_turn va ua W' (HR.out.eof _ _ h) (HR.out.ueof _ _ h))
    have hse : (ty == 32) = false := by rw [HTY.out]; rfl
    have hcl0 : 0 ≤ cl := by have h1 := HALL.out; have h2 := HCL.out; omega
    have hmk0 := mk_none0
    clear HHX
    have HLR := Lib.hid (limReader_any n2 T r W2)
    have HRA : Hid (∀ W3, W3 = W2.alloc (.cells #[.iface T r, .int .i64 n2] 285) → Calls Tryz.prog 125 #[.iface 283 (.pointer (some ⟨W2.heap.size, 0, none⟩))] W3 fun e w' => ∃ Av cv nl, e = .returned (.tuple #[.slice Av nl cv, .nilIface]) ∧ nl = ((l.drop k).take nn).length ∧ Got5 Q g W W2 l k nn cl ty b p w' Av nl cv) := Lib.hid (fun W3 hW3 => got5 HR.out HB.out HI2.out HO2.out HQ2.out HN2.out (by have := HN2.out; omega) (by have h1 := HLM.out; rw [List.length_append] at h1; omega) hW3)
    go_upto_region 41 with (first
      | (go_at_call 126
         with_reducible refine HLR.out.mono ?_
         rintro e W3 ⟨rfl, hw3⟩
         have HW3 := Lib.hid hw3
         clear hw3)
      | (go_at_call 125
         with_reducible refine (HRA.out W3 HW3.out).mono ?_
         rintro e W5 ⟨Av, cv, nl, rfl, hnl, hG5⟩
         have HG5 := Lib.hid hG5
         have HNL := Lib.hid hnl
         have d4 : decide ((nl : Int) < n2) = false := decide_eq_false (by have h1 := HDS.out; have h2 := HDL.out; have h3 := HNN.out; rw [hnl, ← h1]; omega)
         have hnb : (nl : Int) ≤ 1000000 := by have h1 := HDS.out; have h2 := HDL.out; rw [hnl, ← h1]; omega
         have hnb0 : 0 ≤ (nl : Int) := by omega
         clear hG5 hnl))
    have HNL2 : Hid (nl = ds.length) := Lib.hid (by rw [HDS.out]; exact HNL.out)
    obtain ⟨db5, v5, bv5, cv5, P5⟩ := parts_of HG5.out.pk
    have g0 : W5.cell? ⟨p, 0, none⟩ = some (.int .u8 cl) := P5.cell 0
    have g5 : W5.cell? ⟨p, 5, none⟩ = some (.pointer (some ⟨db5, 0, none⟩)) := P5.cell 5
    have HWR := Lib.hid (write_ds HG5.out P5 HDS.out HNL.out HDL.out)
    clear P5
    go_wp2_with (first
      | (go_at_call 107
         with_reducible refine HWR.out.mono ?_
         rintro e W6 ⟨u, rfl, hO6, v6, bv6, cv6, hP6, hV6⟩
         have g2 : W6.cell? ⟨p, 2, none⟩ = some (.int .u64 b) := hP6.cell 2
         have g3 : W6.cell? ⟨p, 3, none⟩ = some .nilIface := hP6.cell 3
         have g4 : W6.cell? ⟨p, 4, none⟩ = some bv6 := hP6.cell 4
         have gf3 := hP6.frozen 3
         have gf4 := hP6.frozen 4
         have HP6 := Lib.hid hP6
         have HV6 := Lib.hid hV6
         have HO6 := Lib.hid hO6
         have HP7 := Lib.hid (Parts_setBv hP6 (.slice Av nl cv) ds (by exact hV6)).1
         clear hO6 hP6 hV6)
      | (go_at_call 89
         with_reducible refine (parse_ds HP7.out HDS.out HNL.out HBY.out HL8.out).mono ?_
         rintro e W8 ⟨rfl, rfl⟩))
    go_ret3
    refine ⟨fun _ => ⟨p, ?_, ?_, ?_⟩, fun h => absurd h (by have := HWH.out; omega), ?_⟩
    · have e : (k2 + (nl : Int)) = ((k + nn : Nat) : Int) := by have h1 := HK2.out; have h2 := HNN.out; have h3 := HNL2.out; have h4 := HDL.out; omega
      show Ending.returned (.tuple #[.pointer (some ⟨p, 0, none⟩), .int .i64 (k2 + (nl : Int)), .nilIface]) = _
      rw [e]
    · have h := (HP7.out.setVal (.iface 4 (.bool (sv ds != 0))) rfl).1.pk
      have e : rdPk ⟨a, b, false, dd, []⟩ = ⟨cl, ty, b, .iface 4 (.bool (sv ds != 0)), ds, ds, [], ⟨#[]⟩⟩ := by rw [← HDE.out, HCL.out, HTY.out, HA0.out, HB0.out]; simp [rdPk, valOf]
      rw [e]
      exact h
    · exact HR.out.keep W6 _ _ (HR.out.keep W5 W6 _ HG5.out.q (fun i hi => HO6.out.block i (blk_lt0 HG5.out.on (Nat.lt_of_lt_of_le hi HB.out)) (Nat.not_le.2 (Nat.lt_of_lt_of_le hi HB.out)))) (fun i hi => by
        rw [Below.heap_setCell _ ⟨p, 3, none⟩ _ i (by show i ≠ p; have h1 := HP6.out.leb; have h2 := HB.out; omega), Below.heap_setCell _ ⟨p, 4, none⟩ _ i (by show i ≠ p; have h1 := HP6.out.leb; have h2 := HB.out; omega)])
    · exact ((HG5.out.on.trans HO6.out (fun i hi h => absurd h (Nat.not_le.2 hi))).setCell (a := ⟨p, 4, none⟩) (fun h => absurd h (Nat.not_lt.2 HP6.out.leb)) _).setCell (a := ⟨p, 3, none⟩) (fun h => absurd h (Nat.not_lt.2 HP6.out.leb)) _
set_option maxHeartbeats 6400000 in
set_option maxRecDepth 100000 in
theorem readPk_p2 (R : RdSpec T F r g B va ua Q) (a b : Int) (dd : List Int) (hkp : kp ⟨a, b, false, dd, []⟩) (hgood : good ⟨a, b, false, dd, []⟩ = true) (hts : tsize ⟨a, b, false, dd, []⟩ ≤ 1000000) (W : World) (l m : List Int) (k nn : Nat) (depth : Int) (hQ : Q W l) (hB : B ≤ W.heap.size) (hh : hdrB (l ++ m) = some (a, false, b, (nn : Int), k)) (hkn : k + nn ≤ (l ++ m).length) (hx : ∀ y ∈ l ++ m, 0 ≤ y ∧ y < 256) (hlm : (l ++ m).length ≤ 1000000) (h0 : 0 ≤ depth) (h1000 : depth < 1000) (hdd : dd = ((l ++ m).drop k).take nn) (hk : k ≤ l.length) (hw : k + nn ≤ l.length) (hz : nn ≠ 0) (ha : a = 0) (hb : b = 2) (hl8 : dd.length ≤ 8) :
    Calls Tryz.prog 104 #[.iface T r, .int .i64 depth] W (Rdd g va ua Q W l (k + nn) ⟨a, b, false, dd, []⟩) := by
    have hall := hdrB_all hh hx
    simp only at hall
    have HH := header_any R W l m a b (nn : Int) false k hQ hB hh hx
    obtain ⟨n2, hn2⟩ : ∃ n2 : Int, n2 = (nn : Int) := ⟨_, rfl⟩
    obtain ⟨k2, hk2⟩ : ∃ k2 : Int, k2 = (k : Int) := ⟨_, rfl⟩
    rw [← hn2, ← hk2] at HH
    have hkl := (hdrB_app [] hh).2.2
    simp only at hkl
    have hn0 : 0 ≤ n2 := by omega
    have hn1 : n2 ≤ 1000000 := by omega
    have hk0 : 0 ≤ k2 := by omega
    have hk1 : k2 ≤ 1000000 := by omega
    have hde : decide (depth ≥ 1000) = false := decide_eq_false (by omega)
    have hde2 : decide (1000 ≤ depth) = false := decide_eq_false (by omega)
    have hne : (n2 != -1) = true := by simp; omega
    have hnq : (n2 == -1) = false := by simp; omega
    have hnm2 : decide (2147483647 < n2) = false := decide_eq_false (by omega)
    have hde9 : depth ≤ 1000 := by omega
    obtain ⟨ty, hty⟩ : ∃ ty : Int, ty = 0 := ⟨_, rfl⟩
    obtain ⟨cl, hcl⟩ : ∃ cl : Int, cl = a * 64 := ⟨_, rfl⟩
    rw [if_neg Bool.false_ne_true, ← hty, ← hcl] at HH
    obtain ⟨ds, hds⟩ : ∃ ds, ds = (l.drop k).take nn := ⟨_, rfl⟩
    have HDE : Hid (ds = dd) := Lib.hid (by rw [hds, hdd, List.drop_append_of_le_length hk, List.take_append_of_le_length (by rw [List.length_drop]; omega)])
    have HDL : Hid (ds.length = nn ∧ nn ≤ 1000000) := Lib.hid ⟨by rw [hds, List.length_take, List.length_drop]; omega, by omega⟩
    have HBY : Hid (∀ y ∈ ds, 0 ≤ y ∧ y < 256) := Lib.hid (fun y hy => hx y (List.mem_append_left _ (by rw [hds] at hy; exact List.mem_of_mem_drop (List.mem_of_mem_take hy))))
    have HWH := Lib.hid hw
    have HDS := Lib.hid hds
    have HNN : Hid (n2 = (nn : Int) ∧ True) := Lib.hid ⟨hn2, trivial⟩
    have HA0 : Hid (a = 0) := Lib.hid ha
    have HB0 : Hid (b = 2) := Lib.hid hb
    have hcz : (cl == 0) = true := by simp; omega
    have hb0 : (b == 0) = false := by simp [hb]
    have hb1 : (b == 1) = false := by simp [hb]
    have hb2 : (b == 2) = true := by simp [hb]
    have HL8 : Hid (ds.length ≤ 8) := Lib.hid (by rw [HDE.out]; exact hl8)
    have hz2 : decide (0 < n2) = true := decide_eq_true (by omega)
    clear hw hds hz ha hb hl8
    have HHX : Hid (Calls Tryz.prog 122 #[.iface T r] W fun e w' => e = .returned (.tuple #[.agg #[.int .u8 cl, .int .u8 ty, .int .u64 b], .int .i64 n2, .int .i64 k2, .nilIface]) ∧ Q w' (l.drop k) ∧ Only (fun i => i = g) W w') := Lib.hid (by
      refine HH.mono ?_
      rintro e w' ⟨h1, _, ho⟩
      obtain ⟨he, hq⟩ := h1 hk
      exact ⟨he, hq, ho⟩)
    have hmk := mk_kids2
    have HR := Lib.hid R
    have HXX := Lib.hid hx
    have HHH := Lib.hid hh
    have HALL := Lib.hid hall
    have HN2 := Lib.hid hn2
    have HK2 := Lib.hid hk2
    have HTY := Lib.hid hty
    have HCL := Lib.hid hcl
    have HKL := Lib.hid hk
    have HB := Lib.hid hB
    have HGD := Lib.hid hgood
    have HTS := Lib.hid hts
    have HLM := Lib.hid hlm
    have HKP := Lib.hid hkp
    have HDD := Lib.hid hdd
    have HKN := Lib.hid hkn
    clear hdd hkn
    clear HH hh R hx hkp hQ hall hn2 hk2 hty hcl hk hB hgood hts hlm hkl
    go_enter Tryz.func104, Tryz.ntmps104
    go_upto_region 12 with (go_at_call 122
                            with_reducible refine HHX.out.mono ?_
                            rintro e W1 ⟨rfl, hQ1, hO1⟩
                            have HQ1 := Lib.hid hQ1
                            have HO1 := Lib.hid hO1
                            clear hQ1 hO1)
    obtain ⟨W2, hW2⟩ : ∃ W2, W2 = (((W1.alloc (.cells #[.int .u8 cl, .int .u8 ty, .int .u64 b] 82)).alloc (.cells #[.int .u8 cl, .int .u8 ty, .int .u64 b, .nilIface, .slice none 0 0, .pointer (some ⟨W1.heap.size + 1 + 1, 0, none⟩), .slice (some ⟨W1.heap.size + 1 + 1 + 1, 0, none⟩) 0 2, .string ⟨#[]⟩] 86)).alloc
        (.cells #[.slice none 0 0, .int .i64 0, .int .i8 0] 134)).alloc (.cells #[.pointer none, .pointer none] 72) := ⟨_, rfl⟩
    obtain ⟨hb12, hI2⟩ := laid_pk W1 cl ty b hW2
    obtain ⟨p, hp⟩ : ∃ p, p = W1.heap.size + 1 := ⟨_, rfl⟩
    rw [← hp] at hI2
    rw [← hW2]
    rw [← hp]
    have hs1 := HO1.out.size
    have HI2 : Hid (IsPk W2 W.heap.size (fun _ => True) p (bare cl ty b .nilIface ⟨#[]⟩)) := Lib.hid (hI2.lower hs1)
    have HO2 : Hid (Only (fun i => i = g) W W2) := Lib.hid (HO1.out.trans (Only.of_below (fun i => i = g) hb12) (fun i _ h => h))
    have HQ2 : Hid (Q W2 (l.drop k)) := Lib.hid (HR.out.keep W1 W2 _ HQ1.out (fun i hi => hb12.block i (Nat.lt_of_lt_of_le hi (Nat.le_trans HB.out hs1))))
    have c1 : W2.cell? ⟨p, 1, none⟩ = some (.int .u8 ty) := by
      obtain ⟨db, v, bv, cv, P⟩ := parts_of HI2.out
      exact P.cell 1
    clear hb12 hI2 hp hW2 HQ1 HO1 hs1
    have HE : Hid (∀ W', Q W' [] → Calls Tryz.prog 123 #[(.iface 248 (.pointer (some va)))] W' fun e w' => e = .returned (.iface 248 (.pointer (some ua))) ∧ w' = W') := Lib.hid (fun W' h => eof_turn va ua W' (HR.out.eof _ _ h) (HR.out.ueof _ _ h))
    have hse : (ty == 32) = false := by rw [HTY.out]; rfl
    have hcl0 : 0 ≤ cl := by have h1 := HALL.out; have h2 := HCL.out; omega
    have hmk0 := mk_none0
    clear HHX
    have HLR := Lib.hid (limReader_any n2 T r W2)
    have HRA : Hid (∀ W3, W3 = W2.alloc (.cells #[.iface T r, .int .i64 n2] 285) → Calls Tryz.prog 125 #[.iface 283 (.pointer (some ⟨W2.heap.size, 0, none⟩))] W3 fun e w' => ∃ Av cv nl, e = .returned (.tuple #[.slice Av nl cv, .nilIface]) ∧ nl = ((l.drop k).take nn).length ∧ Got5 Q g W W2 l k nn cl ty b p w' Av nl cv) := Lib.hid (fun W3 hW3 => got5 HR.out HB.out HI2.out HO2.out HQ2.out HN2.out (by have := HN2.out; omega) (by have h1 := HLM.out; rw [List.length_append] at h1; omega) hW3)
    go_upto_region 41 with (first
      | (go_at_call 126
         with_reducible refine HLR.out.mono ?_
         rintro e W3 ⟨rfl, hw3⟩
         have HW3 := Lib.hid hw3
         clear hw3)
      | (go_at_call 125
         with_reducible refine (HRA.out W3 HW3.out).mono ?_
         rintro e W5 ⟨Av, cv, nl, rfl, hnl, hG5⟩
         have HG5 := Lib.hid hG5
         have HNL := Lib.hid hnl
         have d4 : decide ((nl : Int) < n2) = false := decide_eq_false (by have h1 := HDS.out; have h2 := HDL.out; have h3 := HNN.out; rw [hnl, ← h1]; omega)
         have hnb : (nl : Int) ≤ 1000000 := by have h1 := HDS.out; have h2 := HDL.out; rw [hnl, ← h1]; omega
         have hnb0 : 0 ≤ (nl : Int) := by omega
         clear hG5 hnl))
    have HNL2 : Hid (nl = ds.length) := Lib.hid (by rw [HDS.out]; exact HNL.out)
    obtain ⟨db5, v5, bv5, cv5, P5⟩ := parts_of HG5.out.pk
    have g0 : W5.cell? ⟨p, 0, none⟩ = some (.int .u8 cl) := P5.cell 0
    have g5 : W5.cell? ⟨p, 5, none⟩ = some (.pointer (some ⟨db5, 0, none⟩)) := P5.cell 5
    have HWR := Lib.hid (write_ds HG5.out P5 HDS.out HNL.out HDL.out)
    clear P5
    go_wp2_with (first
      | (go_at_call 107
         with_reducible refine HWR.out.mono ?_
         rintro e W6 ⟨u, rfl, hO6, v6, bv6, cv6, hP6, hV6⟩
         have g2 : W6.cell? ⟨p, 2, none⟩ = some (.int .u64 b) := hP6.cell 2
         have g3 : W6.cell? ⟨p, 3, none⟩ = some .nilIface := hP6.cell 3
         have g4 : W6.cell? ⟨p, 4, none⟩ = some bv6 := hP6.cell 4
         have gf3 := hP6.frozen 3
         have gf4 := hP6.frozen 4
         have HP6 := Lib.hid hP6
         have HV6 := Lib.hid hV6
         have HO6 := Lib.hid hO6
         have HP7 := Lib.hid (Parts_setBv hP6 (.slice Av nl cv) ds (by exact hV6)).1
         clear hO6 hP6 hV6)
      | (go_at_call 89
         with_reducible refine (parse_ds HP7.out HDS.out HNL.out HBY.out HL8.out).mono ?_
         rintro e W8 ⟨rfl, rfl⟩))
    go_ret3
    refine ⟨fun _ => ⟨p, ?_, ?_, ?_⟩, fun h => absurd h (by have := HWH.out; omega), ?_⟩
    · have e : (k2 + (nl : Int)) = ((k + nn : Nat) : Int) := by have h1 := HK2.out; have h2 := HNN.out; have h3 := HNL2.out; have h4 := HDL.out; omega
      show Ending.returned (.tuple #[.pointer (some ⟨p, 0, none⟩), .int .i64 (k2 + (nl : Int)), .nilIface]) = _
      rw [e]
    · have h := (HP7.out.setVal (.iface 2 (.int .i64 (sv ds))) rfl).1.pk
      have e : rdPk ⟨a, b, false, dd, []⟩ = ⟨cl, ty, b, .iface 2 (.int .i64 (sv ds)), ds, ds, [], ⟨#[]⟩⟩ := by rw [← HDE.out, HCL.out, HTY.out, HA0.out, HB0.out]; simp [rdPk, valOf]
      rw [e]
      exact h
    · exact HR.out.keep W6 _ _ (HR.out.keep W5 W6 _ HG5.out.q (fun i hi => HO6.out.block i (blk_lt0 HG5.out.on (Nat.lt_of_lt_of_le hi HB.out)) (Nat.not_le.2 (Nat.lt_of_lt_of_le hi HB.out)))) (fun i hi => by
        rw [Below.heap_setCell _ ⟨p, 3, none⟩ _ i (by show i ≠ p; have h1 := HP6.out.leb; have h2 := HB.out; omega), Below.heap_setCell _ ⟨p, 4, none⟩ _ i (by show i ≠ p; have h1 := HP6.out.leb; have h2 := HB.out; omega)])
    · exact ((HG5.out.on.trans HO6.out (fun i hi h => absurd h (Nat.not_le.2 hi))).setCell (a := ⟨p, 4, none⟩) (fun h => absurd h (Nat.not_lt.2 HP6.out.leb)) _).setCell (a := ⟨p, 3, none⟩) (fun h => absurd h (Nat.not_lt.2 HP6.out.leb)) _
set_option maxHeartbeats 6400000 in
set_option maxRecDepth 100000 in
theorem readPk_p10 (R : RdSpec T F r g B va ua Q) (a b : Int) (dd : List Int) (hkp : kp ⟨a, b, false, dd, []⟩) (hgood : good ⟨a, b, false, dd, []⟩ = true) (hts : tsize ⟨a, b, false, dd, []⟩ ≤ 1000000) (W : World) (l m : List Int) (k nn : Nat) (depth : Int) (hQ : Q W l) (hB : B ≤ W.heap.size) (hh : hdrB (l ++ m) = some (a, false, b, (nn : Int), k)) (hkn : k + nn ≤ (l ++ m).length) (hx : ∀ y ∈ l ++ m, 0 ≤ y ∧ y < 256) (hlm : (l ++ m).length ≤ 1000000) (h0 : 0 ≤ depth) (h1000 : depth < 1000) (hdd : dd = ((l ++ m).drop k).take nn) (hk : k ≤ l.length) (hw : k + nn ≤ l.length) (hz : nn ≠ 0) (ha : a = 0) (hb : b = 10) (hl8 : dd.length ≤ 8) :
    Calls Tryz.prog 104 #[.iface T r, .int .i64 depth] W (Rdd g va ua Q W l (k + nn) ⟨a, b, false, dd, []⟩) := by
    have hall := hdrB_all hh hx
    simp only at hall
    have HH := header_any R W l m a b (nn : Int) false k hQ hB hh hx
    obtain ⟨n2, hn2⟩ : ∃ n2 : Int, n2 = (nn : Int) := ⟨_, rfl⟩
    obtain ⟨k2, hk2⟩ : ∃ k2 : Int, k2 = (k : Int) := ⟨_, rfl⟩
    rw [← hn2, ← hk2] at HH
    have hkl := (hdrB_app [] hh).2.2
    simp only at hkl
    have hn0 : 0 ≤ n2 := by omega
    have hn1 : n2 ≤ 1000000 := by omega
    have hk0 : 0 ≤ k2 := by omega
    have hk1 : k2 ≤ 1000000 := by omega
    have hde : decide (depth ≥ 1000) = false := decide_eq_false (by omega)
    have hde2 : decide (1000 ≤ depth) = false := decide_eq_false (by omega)
    have hne : (n2 != -1) = true := by simp; omega
    have hnq : (n2 == -1) = false := by simp; omega
    have hnm2 : decide (2147483647 < n2) = false := decide_eq_false (by omega)
    have hde9 : depth ≤ 1000 := by omega
    obtain ⟨ty, hty⟩ : ∃ ty : Int, ty = 0 := ⟨_, rfl⟩
    obtain ⟨cl, hcl⟩ : ∃ cl : Int, cl = a * 64 := ⟨_, rfl⟩
    rw [if_neg Bool.false_ne_true, ← hty, ← hcl] at HH
    obtain ⟨ds, hds⟩ : ∃ ds, ds = (l.drop k).take nn := ⟨_, rfl⟩
    have HDE : Hid (ds = dd) := Lib.hid (by rw [hds, hdd, List.drop_append_of_le_length hk, List.take_append_of_le_length (by rw [List.length_drop]; omega)])
    have HDL : Hid (ds.length = nn ∧ nn ≤ 1000000) := Lib.hid ⟨by rw [hds, List.length_take, List.length_drop]; omega, by omega⟩
    have HBY : Hid (∀ y ∈ ds, 0 ≤ y ∧ y < 256) := Lib.hid (fun y hy => hx y (List.mem_append_left _ (by rw [hds] at hy; exact List.mem_of_mem_drop (List.mem_of_mem_take hy))))
    have HWH := Lib.hid hw
    have HDS := Lib.hid hds
    have HNN : Hid (n2 = (nn : Int) ∧ True) := Lib.hid ⟨hn2, trivial⟩
    have HA0 : Hid (a = 0) := Lib.hid ha
    have HB0 : Hid (b = 10) := Lib.hid hb
    have hcz : (cl == 0) = true := by simp; omega
    have hb0 : (b == 0) = false := by simp [hb]
    have hb1 : (b == 1) = false := by simp [hb]
    have hb2 : (b == 2) = false := by simp [hb]
    have hb3 : (b == 3) = false := by simp [hb]
    have hb4 : (b == 4) = false := by simp [hb]
    have hb5 : (b == 5) = false := by simp [hb]
    have hb6 : (b == 6) = false := by simp [hb]
    have hb7 : (b == 7) = false := by simp [hb]
    have hb8 : (b == 8) = false := by simp [hb]
    have hb9 : (b == 9) = false := by simp [hb]
    have hb10 : (b == 10) = true := by simp [hb]
    have HL8 : Hid (ds.length ≤ 8) := Lib.hid (by rw [HDE.out]; exact hl8)
    have hz2 : decide (0 < n2) = true := decide_eq_true (by omega)
    clear hw hds hz ha hb hl8
    have HHX : Hid (Calls Tryz.prog 122 #[.iface T r] W fun e w' => e = .returned (.tuple #[.agg #[.int .u8 cl, .int .u8 ty, .int .u64 b], .int .i64 n2, .int .i64 k2, .nilIface]) ∧ Q w' (l.drop k) ∧ Only (fun i => i = g) W w') := Lib.hid (by
      refine HH.mono ?_
      rintro e w' ⟨h1, _, ho⟩
      obtain ⟨he, hq⟩ := h1 hk
      exact ⟨he, hq, ho⟩)
    have hmk := mk_kids2
    have HR := Lib.hid R
    have HXX := Lib.hid hx
    have HHH := Lib.hid hh
    have HALL := Lib.hid hall
    have HN2 := Lib.hid hn2
    have HK2 := Lib.hid hk2
    have HTY := Lib.hid hty
    have HCL := Lib.hid hcl
    have HKL := Lib.hid hk
    have HB := Lib.hid hB
    have HGD := Lib.hid hgood
    have HTS := Lib.hid hts
    have HLM := Lib.hid hlm
    have HKP := Lib.hid hkp
    have HDD := Lib.hid hdd
    have HKN := Lib.hid hkn
    clear hdd hkn
    clear HH hh R hx hkp hQ hall hn2 hk2 hty hcl hk hB hgood hts hlm hkl
    go_enter Tryz.func104, Tryz.ntmps104
    go_upto_region 12 with (go_at_call 122
                            with_reducible refine HHX.out.mono ?_
                            rintro e W1 ⟨rfl, hQ1, hO1⟩
                            have HQ1 := Lib.hid hQ1
                            have HO1 := Lib.hid hO1
                            clear hQ1 hO1)
    obtain ⟨W2, hW2⟩ : ∃ W2, W2 = (((W1.alloc (.cells #[.int .u8 cl, .int .u8 ty, .int .u64 b] 82)).alloc (.cells #[.int .u8 cl, .int .u8 ty, .int .u64 b, .nilIface, .slice none 0 0, .pointer (some ⟨W1.heap.size + 1 + 1, 0, none⟩), .slice (some ⟨W1.heap.size + 1 + 1 + 1, 0, none⟩) 0 2, .string ⟨#[]⟩] 86)).alloc
        (.cells #[.slice none 0 0, .int .i64 0, .int .i8 0] 134)).alloc (.cells #[.pointer none, .pointer none] 72) := ⟨_, rfl⟩
    obtain ⟨hb12, hI2⟩ := laid_pk W1 cl ty b hW2
    obtain ⟨p, hp⟩ : ∃ p, p = W1.heap.size + 1 := ⟨_, rfl⟩
    rw [← hp] at hI2
    rw [← hW2]
    rw [← hp]
    have hs1 := HO1.out.size
    have HI2 : Hid (IsPk W2 W.heap.size (fun _ => True) p (bare cl ty b .nilIface ⟨#[]⟩)) := Lib.hid (hI2.lower hs1)
    have HO2 : Hid (Only (fun i => i = g) W W2) := Lib.hid (HO1.out.trans (Only.of_below (fun i => i = g) hb12) (fun i _ h => h))
    have HQ2 : Hid (Q W2 (l.drop k)) := Lib.hid (HR.out.keep W1 W2 _ HQ1.out (fun i hi => hb12.block i (Nat.lt_of_lt_of_le hi (Nat.le_trans HB.out hs1))))
    have c1 : W2.cell? ⟨p, 1, none⟩ = some (.int .u8 ty) := by
      obtain ⟨db, v, bv, cv, P⟩ := parts_of HI2.out
      exact P.cell 1
    clear hb12 hI2 hp hW2 HQ1 HO1 hs1
    have HE : Hid (∀ W', Q W' [] → Calls Tryz.prog 123 #[(.iface 248 (.pointer (some va)))] W' fun e w' => e = .returned (.iface 248 (.pointer (some ua))) ∧ w' = W') := Lib.hid (fun W' h => eof_turn va ua W' (HR.out.eof _ _ h) (HR.out.ueof _ _ h))
    have hse : (ty == 32) = false := by rw [HTY.out]; rfl
    have hcl0 : 0 ≤ cl := by have h1 := HALL.out; have h2 := HCL.out; omega
    have hmk0 := mk_none0
    clear HHX
    have HLR := Lib.hid (limReader_any n2 T r W2)
    have HRA : Hid (∀ W3, W3 = W2.alloc (.cells #[.iface T r, .int .i64 n2] 285) → Calls Tryz.prog 125 #[.iface 283 (.pointer (some ⟨W2.heap.size, 0, none⟩))] W3 fun e w' => ∃ Av cv nl, e = .returned (.tuple #[.slice Av nl cv, .nilIface]) ∧ nl = ((l.drop k).take nn).length ∧ Got5 Q g W W2 l k nn cl ty b p w' Av nl cv) := Lib.hid (fun W3 hW3 => got5 HR.out HB.out HI2.out HO2.out HQ2.out HN2.out (by have := HN2.out; omega) (by have h1 := HLM.out; rw [List.length_append] at h1; omega) hW3)
    go_upto_region 41 with (first
      | (go_at_call 126
         with_reducible refine HLR.out.mono ?_
         rintro e W3 ⟨rfl, hw3⟩
         have HW3 := Lib.hid hw3
         clear hw3)
      | (go_at_call 125
         with_reducible refine (HRA.out W3 HW3.out).mono ?_
         rintro e W5 ⟨Av, cv, nl, rfl, hnl, hG5⟩
         have HG5 := Lib.hid hG5
         have HNL := Lib.hid hnl
         have d4 : decide ((nl : Int) < n2) = false := decide_eq_false (by have h1 := HDS.out; have h2 := HDL.out; have h3 := HNN.out; rw [hnl, ← h1]; omega)
         have hnb : (nl : Int) ≤ 1000000 := by have h1 := HDS.out; have h2 := HDL.out; rw [hnl, ← h1]; omega
         have hnb0 : 0 ≤ (nl : Int) := by omega
         clear hG5 hnl))
    have HNL2 : Hid (nl = ds.length) := Lib.hid (by rw [HDS.out]; exact HNL.out)
    obtain ⟨db5, v5, bv5, cv5, P5⟩ := parts_of HG5.out.pk
    have g0 : W5.cell? ⟨p, 0, none⟩ = some (.int .u8 cl) := P5.cell 0
    have g5 : W5.cell? ⟨p, 5, none⟩ = some (.pointer (some ⟨db5, 0, none⟩)) := P5.cell 5
    have HWR := Lib.hid (write_ds HG5.out P5 HDS.out HNL.out HDL.out)
    clear P5
    go_wp2_with (first
      | (go_at_call 107
         with_reducible refine HWR.out.mono ?_
         rintro e W6 ⟨u, rfl, hO6, v6, bv6, cv6, hP6, hV6⟩
         have g2 : W6.cell? ⟨p, 2, none⟩ = some (.int .u64 b) := hP6.cell 2
         have g3 : W6.cell? ⟨p, 3, none⟩ = some .nilIface := hP6.cell 3
         have g4 : W6.cell? ⟨p, 4, none⟩ = some bv6 := hP6.cell 4
         have gf3 := hP6.frozen 3
         have gf4 := hP6.frozen 4
         have HP6 := Lib.hid hP6
         have HV6 := Lib.hid hV6
         have HO6 := Lib.hid hO6
         have HP7 := Lib.hid (Parts_setBv hP6 (.slice Av nl cv) ds (by exact hV6)).1
         clear hO6 hP6 hV6)
      | (go_at_call 89
         with_reducible refine (parse_ds HP7.out HDS.out HNL.out HBY.out HL8.out).mono ?_
         rintro e W8 ⟨rfl, rfl⟩))
    go_ret3
    refine ⟨fun _ => ⟨p, ?_, ?_, ?_⟩, fun h => absurd h (by have := HWH.out; omega), ?_⟩
    · have e : (k2 + (nl : Int)) = ((k + nn : Nat) : Int) := by have h1 := HK2.out; have h2 := HNN.out; have h3 := HNL2.out; have h4 := HDL.out; omega
      show Ending.returned (.tuple #[.pointer (some ⟨p, 0, none⟩), .int .i64 (k2 + (nl : Int)), .nilIface]) = _
      rw [e]
    · have h := (HP7.out.setVal (.iface 2 (.int .i64 (sv ds))) rfl).1.pk
      have e : rdPk ⟨a, b, false, dd, []⟩ = ⟨cl, ty, b, .iface 2 (.int .i64 (sv ds)), ds, ds, [], ⟨#[]⟩⟩ := by rw [← HDE.out, HCL.out, HTY.out, HA0.out, HB0.out]; simp [rdPk, valOf]
      rw [e]
      exact h
    · exact HR.out.keep W6 _ _ (HR.out.keep W5 W6 _ HG5.out.q (fun i hi => HO6.out.block i (blk_lt0 HG5.out.on (Nat.lt_of_lt_of_le hi HB.out)) (Nat.not_le.2 (Nat.lt_of_lt_of_le hi HB.out)))) (fun i hi => by
        rw [Below.heap_setCell _ ⟨p, 3, none⟩ _ i (by show i ≠ p; have h1 := HP6.out.leb; have h2 := HB.out; omega), Below.heap_setCell _ ⟨p, 4, none⟩ _ i (by show i ≠ p; have h1 := HP6.out.leb; have h2 := HB.out; omega)])
    · exact ((HG5.out.on.trans HO6.out (fun i hi h => absurd h (Nat.not_le.2 hi))).setCell (a := ⟨p, 4, none⟩) (fun h => absurd h (Nat.not_lt.2 HP6.out.leb)) _).setCell (a := ⟨p, 3, none⟩) (fun h => absurd h (Nat.not_lt.2 HP6.out.leb)) _
set_option maxHeartbeats 6400000 in
set_option maxRecDepth 100000 in
theorem readPk_p4 (R : RdSpec T F r g B va ua Q) (a b : Int) (dd : List Int) (hkp : kp ⟨a, b, false, dd, []⟩) (hgood : good ⟨a, b, false, dd, []⟩ = true) (hts : tsize ⟨a, b, false, dd, []⟩ ≤ 1000000) (W : World) (l m : List Int) (k nn : Nat) (depth : Int) (hQ : Q W l) (hB : B ≤ W.heap.size) (hh : hdrB (l ++ m) = some (a, false, b, (nn : Int), k)) (hkn : k + nn ≤ (l ++ m).length) (hx : ∀ y ∈ l ++ m, 0 ≤ y ∧ y < 256) (hlm : (l ++ m).length ≤ 1000000) (h0 : 0 ≤ depth) (h1000 : depth < 1000) (hdd : dd = ((l ++ m).drop k).take nn) (hk : k ≤ l.length) (hw : k + nn ≤ l.length) (hz : nn ≠ 0) (ha : a = 0) (hb : b = 4) :
    Calls Tryz.prog 104 #[.iface T r, .int .i64 depth] W (Rdd g va ua Q W l (k + nn) ⟨a, b, false, dd, []⟩) := by
    have hall := hdrB_all hh hx
    simp only at hall
    have HH := header_any R W l m a b (nn : Int) false k hQ hB hh hx
    obtain ⟨n2, hn2⟩ : ∃ n2 : Int, n2 = (nn : Int) := ⟨_, rfl⟩
    obtain ⟨k2, hk2⟩ : ∃ k2 : Int, k2 = (k : Int) := ⟨_, rfl⟩
    rw [← hn2, ← hk2] at HH
    have hkl := (hdrB_app [] hh).2.2
    simp only at hkl
    have hn0 : 0 ≤ n2 := by omega
    have hn1 : n2 ≤ 1000000 := by omega
    have hk0 : 0 ≤ k2 := by omega
    have hk1 : k2 ≤ 1000000 := by omega
    have hde : decide (depth ≥ 1000) = false := decide_eq_false (by omega)
    have hde2 : decide (1000 ≤ depth) = false := decide_eq_false (by omega)
    have hne : (n2 != -1) = true := by simp; omega
    have hnq : (n2 == -1) = false := by simp; omega
    have hnm2 : decide (2147483647 < n2) = false := decide_eq_false (by omega)
    have hde9 : depth ≤ 1000 := by omega
    obtain ⟨ty, hty⟩ : ∃ ty : Int, ty = 0 := ⟨_, rfl⟩
    obtain ⟨cl, hcl⟩ : ∃ cl : Int, cl = a * 64 := ⟨_, rfl⟩
    rw [if_neg Bool.false_ne_true, ← hty, ← hcl] at HH
    obtain ⟨ds, hds⟩ : ∃ ds, ds = (l.drop k).take nn := ⟨_, rfl⟩
    have HDE : Hid (ds = dd) := Lib.hid (by rw [hds, hdd, List.drop_append_of_le_length hk, List.take_append_of_le_length (by rw [List.length_drop]; omega)])
    have HDL : Hid (ds.length = nn ∧ nn ≤ 1000000) := Lib.hid ⟨by rw [hds, List.length_take, List.length_drop]; omega, by omega⟩
    have HBY : Hid (∀ y ∈ ds, 0 ≤ y ∧ y < 256) := Lib.hid (fun y hy => hx y (List.mem_append_left _ (by rw [hds] at hy; exact List.mem_of_mem_drop (List.mem_of_mem_take hy))))
    have HWH := Lib.hid hw
    have HDS := Lib.hid hds
    have HNN : Hid (n2 = (nn : Int) ∧ True) := Lib.hid ⟨hn2, trivial⟩
    have HA0 : Hid (a = 0) := Lib.hid ha
    have HB0 : Hid (b = 4) := Lib.hid hb
    have hcz : (cl == 0) = true := by simp; omega
    have hb0 : (b == 0) = false := by simp [hb]
    have hb1 : (b == 1) = false := by simp [hb]
    have hb2 : (b == 2) = false := by simp [hb]
    have hb3 : (b == 3) = false := by simp [hb]
    have hb4 : (b == 4) = true := by simp [hb]
    have hz2 : decide (0 < n2) = true := decide_eq_true (by omega)
    clear hw hds hz ha hb
    have HHX : Hid (Calls Tryz.prog 122 #[.iface T r] W fun e w' => e = .returned (.tuple #[.agg #[.int .u8 cl, .int .u8 ty, .int .u64 b], .int .i64 n2, .int .i64 k2, .nilIface]) ∧ Q w' (l.drop k) ∧ Only (fun i => i = g) W w') := Lib.hid (by
      refine HH.mono ?_
      rintro e w' ⟨h1, _, ho⟩
      obtain ⟨he, hq⟩ := h1 hk
      exact ⟨he, hq, ho⟩)
    have hmk := mk_kids2
    have HR := Lib.hid R
    have HXX := Lib.hid hx
    have HHH := Lib.hid hh
    have HALL := Lib.hid hall
    have HN2 := Lib.hid hn2
    have HK2 := Lib.hid hk2
    have HTY := Lib.hid hty
    have HCL := Lib.hid hcl
    have HKL := Lib.hid hk
    have HB := Lib.hid hB
    have HGD := Lib.hid hgood
    have HTS := Lib.hid hts
    have HLM := Lib.hid hlm
    have HKP := Lib.hid hkp
    have HDD := Lib.hid hdd
    have HKN := Lib.hid hkn
    clear hdd hkn
    clear HH hh R hx hkp hQ hall hn2 hk2 hty hcl hk hB hgood hts hlm hkl
    go_enter Tryz.func104, Tryz.ntmps104
    go_upto_region 12 with (go_at_call 122
                            with_reducible refine HHX.out.mono ?_
                            rintro e W1 ⟨rfl, hQ1, hO1⟩
                            have HQ1 := Lib.hid hQ1
                            have HO1 := Lib.hid hO1
                            clear hQ1 hO1)
    obtain ⟨W2, hW2⟩ : ∃ W2, W2 = (((W1.alloc (.cells #[.int .u8 cl, .int .u8 ty, .int .u64 b] 82)).alloc (.cells #[.int .u8 cl, .int .u8 ty, .int .u64 b, .nilIface, .slice none 0 0, .pointer (some ⟨W1.heap.size + 1 + 1, 0, none⟩), .slice (some ⟨W1.heap.size + 1 + 1 + 1, 0, none⟩) 0 2, .string ⟨#[]⟩] 86)).alloc
        (.cells #[.slice none 0 0, .int .i64 0, .int .i8 0] 134)).alloc (.cells #[.pointer none, .pointer none] 72) := ⟨_, rfl⟩
    obtain ⟨hb12, hI2⟩ := laid_pk W1 cl ty b hW2
    obtain ⟨p, hp⟩ : ∃ p, p = W1.heap.size + 1 := ⟨_, rfl⟩
    rw [← hp] at hI2
    rw [← hW2]
    rw [← hp]
    have hs1 := HO1.out.size
    have HI2 : Hid (IsPk W2 W.heap.size (fun _ => True) p (bare cl ty b .nilIface ⟨#[]⟩)) := Lib.hid (hI2.lower hs1)
    have HO2 : Hid (Only (fun i => i = g) W W2) := Lib.hid (HO1.out.trans (Only.of_below (fun i => i = g) hb12) (fun i _ h => h))
    have HQ2 : Hid (Q W2 (l.drop k)) := Lib.hid (HR.out.keep W1 W2 _ HQ1.out (fun i hi => hb12.block i (Nat.lt_of_lt_of_le hi (Nat.le_trans HB.out hs1))))
    have c1 : W2.cell? ⟨p, 1, none⟩ = some (.int .u8 ty) := by
      obtain ⟨db, v, bv, cv, P⟩ := parts_of HI2.out
      exact P.cell 1
    clear hb12 hI2 hp hW2 HQ1 HO1 hs1
    have HE : Hid (∀ W', Q W' [] → Calls Tryz.prog 123 #[(.iface 248 (.pointer (some va)))] W' fun e w' => e = .returned (.iface 248 (.pointer (some ua))) ∧ w' = W') := Lib.hid (fun W' h => eof_turn va ua W' (HR.out.eof _ _ h) (HR.out.ueof _ _ h))
    have hse : (ty == 32) = false := by rw [HTY.out]; rfl
    have hcl0 : 0 ≤ cl := by have h1 := HALL.out; have h2 := HCL.out; omega
    have hmk0 := mk_none0
    clear HHX
    have HLR := Lib.hid (limReader_any n2 T r W2)
    have HRA : Hid (∀ W3, W3 = W2.alloc (.cells #[.iface T r, .int .i64 n2] 285) → Calls Tryz.prog 125 #[.iface 283 (.pointer (some ⟨W2.heap.size, 0, none⟩))] W3 fun e w' => ∃ Av cv nl, e = .returned (.tuple #[.slice Av nl cv, .nilIface]) ∧ nl = ((l.drop k).take nn).length ∧ Got5 Q g W W2 l k nn cl ty b p w' Av nl cv) := Lib.hid (fun W3 hW3 => got5 HR.out HB.out HI2.out HO2.out HQ2.out HN2.out (by have := HN2.out; omega) (by have h1 := HLM.out; rw [List.length_append] at h1; omega) hW3)
    go_upto_region 41 with (first
      | (go_at_call 126
         with_reducible refine HLR.out.mono ?_
         rintro e W3 ⟨rfl, hw3⟩
         have HW3 := Lib.hid hw3
         clear hw3)
      | (go_at_call 125
         with_reducible refine (HRA.out W3 HW3.out).mono ?_
         rintro e W5 ⟨Av, cv, nl, rfl, hnl, hG5⟩
         have HG5 := Lib.hid hG5
         have HNL := Lib.hid hnl
         have d4 : decide ((nl : Int) < n2) = false := decide_eq_false (by have h1 := HDS.out; have h2 := HDL.out; have h3 := HNN.out; rw [hnl, ← h1]; omega)
         have hnb : (nl : Int) ≤ 1000000 := by have h1 := HDS.out; have h2 := HDL.out; rw [hnl, ← h1]; omega
         have hnb0 : 0 ≤ (nl : Int) := by omega
         clear hG5 hnl))
    have HNL2 : Hid (nl = ds.length) := Lib.hid (by rw [HDS.out]; exact HNL.out)
    obtain ⟨db5, v5, bv5, cv5, P5⟩ := parts_of HG5.out.pk
    have g0 : W5.cell? ⟨p, 0, none⟩ = some (.int .u8 cl) := P5.cell 0
    have g5 : W5.cell? ⟨p, 5, none⟩ = some (.pointer (some ⟨db5, 0, none⟩)) := P5.cell 5
    have HWR := Lib.hid (write_ds HG5.out P5 HDS.out HNL.out HDL.out)
    clear P5
    go_wp2_with (first
      | (go_at_call 107
         with_reducible refine HWR.out.mono ?_
         rintro e W6 ⟨u, rfl, hO6, v6, bv6, cv6, hP6, hV6⟩
         have g2 : W6.cell? ⟨p, 2, none⟩ = some (.int .u64 b) := hP6.cell 2
         have g3 : W6.cell? ⟨p, 3, none⟩ = some .nilIface := hP6.cell 3
         have g4 : W6.cell? ⟨p, 4, none⟩ = some bv6 := hP6.cell 4
         have gf3 := hP6.frozen 3
         have gf4 := hP6.frozen 4
         have HP6 := Lib.hid hP6
         have HV6 := Lib.hid hV6
         have HO6 := Lib.hid hO6
         have HP7 := Lib.hid (Parts_setBv hP6 (.slice Av nl cv) ds (by exact hV6)).1
         clear hO6 hP6 hV6)
      | (go_at_call 90
         with_reducible refine (dec_ds HP7.out HNL2.out).mono ?_
         rintro e W8 ⟨rfl, rfl⟩))
    go_ret3
    refine ⟨fun _ => ⟨p, ?_, ?_, ?_⟩, fun h => absurd h (by have := HWH.out; omega), ?_⟩
    · have e : (k2 + (nl : Int)) = ((k + nn : Nat) : Int) := by have h1 := HK2.out; have h2 := HNN.out; have h3 := HNL2.out; have h4 := HDL.out; omega
      show Ending.returned (.tuple #[.pointer (some ⟨p, 0, none⟩), .int .i64 (k2 + (nl : Int)), .nilIface]) = _
      rw [e]
    · have h := (HP7.out.setVal (strV (strOfNums ds)) rfl).1.pk
      have e : rdPk ⟨a, b, false, dd, []⟩ = ⟨cl, ty, b, strV (strOfNums ds), ds, ds, [], ⟨#[]⟩⟩ := by rw [← HDE.out, HCL.out, HTY.out, HA0.out, HB0.out]; simp [rdPk, valOf]
      rw [e]
      exact h
    · exact HR.out.keep W6 _ _ (HR.out.keep W5 W6 _ HG5.out.q (fun i hi => HO6.out.block i (blk_lt0 HG5.out.on (Nat.lt_of_lt_of_le hi HB.out)) (Nat.not_le.2 (Nat.lt_of_lt_of_le hi HB.out)))) (fun i hi => by
        rw [Below.heap_setCell _ ⟨p, 3, none⟩ _ i (by show i ≠ p; have h1 := HP6.out.leb; have h2 := HB.out; omega), Below.heap_setCell _ ⟨p, 4, none⟩ _ i (by show i ≠ p; have h1 := HP6.out.leb; have h2 := HB.out; omega)])
    · exact ((HG5.out.on.trans HO6.out (fun i hi h => absurd h (Nat.not_le.2 hi))).setCell (a := ⟨p, 4, none⟩) (fun h => absurd h (Nat.not_lt.2 HP6.out.leb)) _).setCell (a := ⟨p, 3, none⟩) (fun h => absurd h (Nat.not_lt.2 HP6.out.leb)) _
set_option maxHeartbeats 6400000 in
set_option maxRecDepth 100000 in
theorem readPk_p40 (R : RdSpec T F r g B va ua Q) (a b : Int) (dd : List Int) (hkp : kp ⟨a, b, false, dd, []⟩) (hgood : good ⟨a, b, false, dd, []⟩ = true) (hts : tsize ⟨a, b, false, dd, []⟩ ≤ 1000000) (W : World) (l m : List Int) (k nn : Nat) (depth : Int) (hQ : Q W l) (hB : B ≤ W.heap.size) (hh : hdrB (l ++ m) = some (a, false, b, (nn : Int), k)) (hkn : k + nn ≤ (l ++ m).length) (hx : ∀ y ∈ l ++ m, 0 ≤ y ∧ y < 256) (hlm : (l ++ m).length ≤ 1000000) (h0 : 0 ≤ depth) (h1000 : depth < 1000) (hdd : dd = ((l ++ m).drop k).take nn) (hk : k ≤ l.length) (hw : k + nn ≤ l.length) (hz : nn = 0) (ha : a = 0) (hb : b = 4) :
    Calls Tryz.prog 104 #[.iface T r, .int .i64 depth] W (Rdd g va ua Q W l (k + nn) ⟨a, b, false, dd, []⟩) := by
    have hall := hdrB_all hh hx
    simp only at hall
    have HH := header_any R W l m a b (nn : Int) false k hQ hB hh hx
    obtain ⟨n2, hn2⟩ : ∃ n2 : Int, n2 = (nn : Int) := ⟨_, rfl⟩
    obtain ⟨k2, hk2⟩ : ∃ k2 : Int, k2 = (k : Int) := ⟨_, rfl⟩
    rw [← hn2, ← hk2] at HH
    have hkl := (hdrB_app [] hh).2.2
    simp only at hkl
    have hn0 : 0 ≤ n2 := by omega
    have hn1 : n2 ≤ 1000000 := by omega
    have hk0 : 0 ≤ k2 := by omega
    have hk1 : k2 ≤ 1000000 := by omega
    have hde : decide (depth ≥ 1000) = false := decide_eq_false (by omega)
    have hde2 : decide (1000 ≤ depth) = false := decide_eq_false (by omega)
    have hne : (n2 != -1) = true := by simp; omega
    have hnq : (n2 == -1) = false := by simp; omega
    have hnm2 : decide (2147483647 < n2) = false := decide_eq_false (by omega)
    have hde9 : depth ≤ 1000 := by omega
    obtain ⟨ty, hty⟩ : ∃ ty : Int, ty = 0 := ⟨_, rfl⟩
    obtain ⟨cl, hcl⟩ : ∃ cl : Int, cl = a * 64 := ⟨_, rfl⟩
    rw [if_neg Bool.false_ne_true, ← hty, ← hcl] at HH
    obtain ⟨ds, hds⟩ : ∃ ds, ds = (l.drop k).take nn := ⟨_, rfl⟩
    have HDE : Hid (ds = dd) := Lib.hid (by rw [hds, hdd, List.drop_append_of_le_length hk, List.take_append_of_le_length (by rw [List.length_drop]; omega)])
    have HDL : Hid (ds.length = nn ∧ nn ≤ 1000000) := Lib.hid ⟨by rw [hds, List.length_take, List.length_drop]; omega, by omega⟩
    have HBY : Hid (∀ y ∈ ds, 0 ≤ y ∧ y < 256) := Lib.hid (fun y hy => hx y (List.mem_append_left _ (by rw [hds] at hy; exact List.mem_of_mem_drop (List.mem_of_mem_take hy))))
    have HWH := Lib.hid hw
    have HDS := Lib.hid hds
    have HNN : Hid (n2 = (nn : Int) ∧ nn = 0) := Lib.hid ⟨hn2, hz⟩
    have HA0 : Hid (a = 0) := Lib.hid ha
    have HB0 : Hid (b = 4) := Lib.hid hb
    have hcz : (cl == 0) = true := by simp; omega
    have hb0 : (b == 0) = false := by simp [hb]
    have hb1 : (b == 1) = false := by simp [hb]
    have hb2 : (b == 2) = false := by simp [hb]
    have hb3 : (b == 3) = false := by simp [hb]
    have hb4 : (b == 4) = true := by simp [hb]
    have hz2 : decide (0 < n2) = false := decide_eq_false (by omega)
    clear hw hds hz ha hb
    have HHX : Hid (Calls Tryz.prog 122 #[.iface T r] W fun e w' => e = .returned (.tuple #[.agg #[.int .u8 cl, .int .u8 ty, .int .u64 b], .int .i64 n2, .int .i64 k2, .nilIface]) ∧ Q w' (l.drop k) ∧ Only (fun i => i = g) W w') := Lib.hid (by
      refine HH.mono ?_
      rintro e w' ⟨h1, _, ho⟩
      obtain ⟨he, hq⟩ := h1 hk
      exact ⟨he, hq, ho⟩)
    have hmk := mk_kids2
    have HR := Lib.hid R
    have HXX := Lib.hid hx
    have HHH := Lib.hid hh
    have HALL := Lib.hid hall
    have HN2 := Lib.hid hn2
    have HK2 := Lib.hid hk2
    have HTY := Lib.hid hty
    have HCL := Lib.hid hcl
    have HKL := Lib.hid hk
    have HB := Lib.hid hB
    have HGD := Lib.hid hgood
    have HTS := Lib.hid hts
    have HLM := Lib.hid hlm
    have HKP := Lib.hid hkp
    have HDD := Lib.hid hdd
    have HKN := Lib.hid hkn
    clear hdd hkn
    clear HH hh R hx hkp hQ hall hn2 hk2 hty hcl hk hB hgood hts hlm hkl
    go_enter Tryz.func104, Tryz.ntmps104
    go_upto_region 12 with (go_at_call 122
                            with_reducible refine HHX.out.mono ?_
                            rintro e W1 ⟨rfl, hQ1, hO1⟩
                            have HQ1 := Lib.hid hQ1
                            have HO1 := Lib.hid hO1
                            clear hQ1 hO1)
    obtain ⟨W2, hW2⟩ : ∃ W2, W2 = (((W1.alloc (.cells #[.int .u8 cl, .int .u8 ty, .int .u64 b] 82)).alloc (.cells #[.int .u8 cl, .int .u8 ty, .int .u64 b, .nilIface, .slice none 0 0, .pointer (some ⟨W1.heap.size + 1 + 1, 0, none⟩), .slice (some ⟨W1.heap.size + 1 + 1 + 1, 0, none⟩) 0 2, .string ⟨#[]⟩] 86)).alloc
        (.cells #[.slice none 0 0, .int .i64 0, .int .i8 0] 134)).alloc (.cells #[.pointer none, .pointer none] 72) := ⟨_, rfl⟩
    obtain ⟨hb12, hI2⟩ := laid_pk W1 cl ty b hW2
    obtain ⟨p, hp⟩ : ∃ p, p = W1.heap.size + 1 := ⟨_, rfl⟩
    rw [← hp] at hI2
    rw [← hW2]
    rw [← hp]
    have hs1 := HO1.out.size
    have HI2 : Hid (IsPk W2 W.heap.size (fun _ => True) p (bare cl ty b .nilIface ⟨#[]⟩)) := Lib.hid (hI2.lower hs1)
    have HO2 : Hid (Only (fun i => i = g) W W2) := Lib.hid (HO1.out.trans (Only.of_below (fun i => i = g) hb12) (fun i _ h => h))
    have HQ2 : Hid (Q W2 (l.drop k)) := Lib.hid (HR.out.keep W1 W2 _ HQ1.out (fun i hi => hb12.block i (Nat.lt_of_lt_of_le hi (Nat.le_trans HB.out hs1))))
    have c1 : W2.cell? ⟨p, 1, none⟩ = some (.int .u8 ty) := by
      obtain ⟨db, v, bv, cv, P⟩ := parts_of HI2.out
      exact P.cell 1
    clear hb12 hI2 hp hW2 HQ1 HO1 hs1
    have HE : Hid (∀ W', Q W' [] → Calls Tryz.prog 123 #[(.iface 248 (.pointer (some va)))] W' fun e w' => e = .returned (.iface 248 (.pointer (some ua))) ∧ w' = W') := Lib.hid (fun W' h => eof_turn va ua W' (HR.out.eof _ _ h) (HR.out.ueof _ _ h))
    have hse : (ty == 32) = false := by rw [HTY.out]; rfl
    have hcl0 : 0 ≤ cl := by have h1 := HALL.out; have h2 := HCL.out; omega
    have hmk0 := mk_none0
    clear HHX
    go_upto_region 41 with fail
    obtain ⟨W5, hW5⟩ : ∃ W5, W5 = W2.alloc (.cells #[] 5) := ⟨_, rfl⟩
    rw [← hW5]
    have HNL : Hid ((0 : Nat) = ((l.drop k).take nn).length) := Lib.hid (by rw [HNN.out.2, List.take_zero]; rfl)
    have HG5 : Hid (Got5 Q g W W2 l k nn cl ty b p W5 (some ⟨W2.heap.size, 0, none⟩) 0 0) := Lib.hid (got0 HR.out HB.out HI2.out HO2.out HQ2.out HNN.out.2 hW5)
    have HNL2 : Hid ((0 : Nat) = ds.length) := Lib.hid (by rw [HDS.out]; exact HNL.out)
    clear hW5
    obtain ⟨db5, v5, bv5, cv5, P5⟩ := parts_of HG5.out.pk
    have g0 : W5.cell? ⟨p, 0, none⟩ = some (.int .u8 cl) := P5.cell 0
    have g5 : W5.cell? ⟨p, 5, none⟩ = some (.pointer (some ⟨db5, 0, none⟩)) := P5.cell 5
    have HWR := Lib.hid (write_ds HG5.out P5 HDS.out HNL.out HDL.out)
    clear P5
    go_wp2_with (first
      | (go_at_call 107
         with_reducible refine HWR.out.mono ?_
         rintro e W6 ⟨u, rfl, hO6, v6, bv6, cv6, hP6, hV6⟩
         have g2 : W6.cell? ⟨p, 2, none⟩ = some (.int .u64 b) := hP6.cell 2
         have g3 : W6.cell? ⟨p, 3, none⟩ = some .nilIface := hP6.cell 3
         have g4 : W6.cell? ⟨p, 4, none⟩ = some bv6 := hP6.cell 4
         have gf3 := hP6.frozen 3
         have gf4 := hP6.frozen 4
         have HP6 := Lib.hid hP6
         have HV6 := Lib.hid hV6
         have HO6 := Lib.hid hO6
         have HP7 := Lib.hid (Parts_setBv hP6 (.slice (some ⟨W2.heap.size, 0, none⟩) 0 0) ds (by exact hV6)).1
         clear hO6 hP6 hV6)
      | (go_at_call 90
         with_reducible refine (dec_ds HP7.out HNL2.out).mono ?_
         rintro e W8 ⟨rfl, rfl⟩))
    go_ret3
    refine ⟨fun _ => ⟨p, ?_, ?_, ?_⟩, fun h => absurd h (by have := HWH.out; omega), ?_⟩
    · have e : k2 = ((k + nn : Nat) : Int) := by have h1 := HK2.out; have h2 := HNN.out; omega
      show Ending.returned (.tuple #[.pointer (some ⟨p, 0, none⟩), .int .i64 k2, .nilIface]) = _
      rw [e]
    · have h := (HP7.out.setVal (strV (strOfNums ds)) rfl).1.pk
      have e : rdPk ⟨a, b, false, dd, []⟩ = ⟨cl, ty, b, strV (strOfNums ds), ds, ds, [], ⟨#[]⟩⟩ := by rw [← HDE.out, HCL.out, HTY.out, HA0.out, HB0.out]; simp [rdPk, valOf]
      rw [e]
      exact h
    · exact HR.out.keep W6 _ _ (HR.out.keep W5 W6 _ HG5.out.q (fun i hi => HO6.out.block i (blk_lt0 HG5.out.on (Nat.lt_of_lt_of_le hi HB.out)) (Nat.not_le.2 (Nat.lt_of_lt_of_le hi HB.out)))) (fun i hi => by
        rw [Below.heap_setCell _ ⟨p, 3, none⟩ _ i (by show i ≠ p; have h1 := HP6.out.leb; have h2 := HB.out; omega), Below.heap_setCell _ ⟨p, 4, none⟩ _ i (by show i ≠ p; have h1 := HP6.out.leb; have h2 := HB.out; omega)])
    · exact ((HG5.out.on.trans HO6.out (fun i hi h => absurd h (Nat.not_le.2 hi))).setCell (a := ⟨p, 4, none⟩) (fun h => absurd h (Nat.not_lt.2 HP6.out.leb)) _).setCell (a := ⟨p, 3, none⟩) (fun h => absurd h (Nat.not_lt.2 HP6.out.leb)) _
set_option maxHeartbeats 6400000 in
set_option maxRecDepth 100000 in
theorem readPk_p50 (R : RdSpec T F r g B va ua Q) (a b : Int) (dd : List Int) (hkp : kp ⟨a, b, false, dd, []⟩) (hgood : good ⟨a, b, false, dd, []⟩ = true) (hts : tsize ⟨a, b, false, dd, []⟩ ≤ 1000000) (W : World) (l m : List Int) (k nn : Nat) (depth : Int) (hQ : Q W l) (hB : B ≤ W.heap.size) (hh : hdrB (l ++ m) = some (a, false, b, (nn : Int), k)) (hkn : k + nn ≤ (l ++ m).length) (hx : ∀ y ∈ l ++ m, 0 ≤ y ∧ y < 256) (hlm : (l ++ m).length ≤ 1000000) (h0 : 0 ≤ depth) (h1000 : depth < 1000) (hdd : dd = ((l ++ m).drop k).take nn) (hk : k ≤ l.length) (hw : k + nn ≤ l.length) (hz : nn = 0) (ha : a = 0) (hb : b = 5) :
    Calls Tryz.prog 104 #[.iface T r, .int .i64 depth] W (Rdd g va ua Q W l (k + nn) ⟨a, b, false, dd, []⟩) := by
    have hall := hdrB_all hh hx
    simp only at hall
    have HH := header_any R W l m a b (nn : Int) false k hQ hB hh hx
    obtain ⟨n2, hn2⟩ : ∃ n2 : Int, n2 = (nn : Int) := ⟨_, rfl⟩
    obtain ⟨k2, hk2⟩ : ∃ k2 : Int, k2 = (k : Int) := ⟨_, rfl⟩
    rw [← hn2, ← hk2] at HH
    have hkl := (hdrB_app [] hh).2.2
    simp only at hkl
    have hn0 : 0 ≤ n2 := by omega
    have hn1 : n2 ≤ 1000000 := by omega
    have hk0 : 0 ≤ k2 := by omega
    have hk1 : k2 ≤ 1000000 := by omega
    have hde : decide (depth ≥ 1000) = false := decide_eq_false (by omega)
    have hde2 : decide (1000 ≤ depth) = false := decide_eq_false (by omega)
    have hne : (n2 != -1) = true := by simp; omega
    have hnq : (n2 == -1) = false := by simp; omega
    have hnm2 : decide (2147483647 < n2) = false := decide_eq_false (by omega)
    have hde9 : depth ≤ 1000 := by omega
    obtain ⟨ty, hty⟩ : ∃ ty : Int, ty = 0 := ⟨_, rfl⟩
    obtain ⟨cl, hcl⟩ : ∃ cl : Int, cl = a * 64 := ⟨_, rfl⟩
    rw [if_neg Bool.false_ne_true, ← hty, ← hcl] at HH
    obtain ⟨ds, hds⟩ : ∃ ds, ds = (l.drop k).take nn := ⟨_, rfl⟩
    have HDE : Hid (ds = dd) := Lib.hid (by rw [hds, hdd, List.drop_append_of_le_length hk, List.take_append_of_le_length (by rw [List.length_drop]; omega)])
    have HDL : Hid (ds.length = nn ∧ nn ≤ 1000000) := Lib.hid ⟨by rw [hds, List.length_take, List.length_drop]; omega, by omega⟩
    have HBY : Hid (∀ y ∈ ds, 0 ≤ y ∧ y < 256) := Lib.hid (fun y hy => hx y (List.mem_append_left _ (by rw [hds] at hy; exact List.mem_of_mem_drop (List.mem_of_mem_take hy))))
    have HWH := Lib.hid hw
    have HDS := Lib.hid hds
    have HNN : Hid (n2 = (nn : Int) ∧ nn = 0) := Lib.hid ⟨hn2, hz⟩
    have HA0 : Hid (a = 0) := Lib.hid ha
    have HB0 : Hid (b = 5) := Lib.hid hb
    have hcz : (cl == 0) = true := by simp; omega
    have hb0 : (b == 0) = false := by simp [hb]
    have hb1 : (b == 1) = false := by simp [hb]
    have hb2 : (b == 2) = false := by simp [hb]
    have hb3 : (b == 3) = false := by simp [hb]
    have hb4 : (b == 4) = false := by simp [hb]
    have hb5 : (b == 5) = true := by simp [hb]
    have hz2 : decide (0 < n2) = false := decide_eq_false (by omega)
    clear hw hds hz ha hb
    have HHX : Hid (Calls Tryz.prog 122 #[.iface T r] W fun e w' => e = .returned (.tuple #[.agg #[.int .u8 cl, .int .u8 ty, .int .u64 b], .int .i64 n2, .int .i64 k2, .nilIface]) ∧ Q w' (l.drop k) ∧ Only (fun i => i = g) W w') := Lib.hid (by
      refine HH.mono ?_
      rintro e w' ⟨h1, _, ho⟩
      obtain ⟨he, hq⟩ := h1 hk
      exact ⟨he, hq, ho⟩)
    have hmk := mk_kids2
    have HR := Lib.hid R
    have HXX := Lib.hid hx
    have HHH := Lib.hid hh
    have HALL := Lib.hid hall
    have HN2 := Lib.hid hn2
    have HK2 := Lib.hid hk2
    have HTY := Lib.hid hty
    have HCL := Lib.hid hcl
    have HKL := Lib.hid hk
    have HB := Lib.hid hB
    have HGD := Lib.hid hgood
    have HTS := Lib.hid hts
    have HLM := Lib.hid hlm
    have HKP := Lib.hid hkp
    have HDD := Lib.hid hdd
    have HKN := Lib.hid hkn
    clear hdd hkn
    clear HH hh R hx hkp hQ hall hn2 hk2 hty hcl hk hB hgood hts hlm hkl
    go_enter Tryz.func104, Tryz.ntmps104
    go_upto_region 12 with (go_at_call 122
                            with_reducible refine HHX.out.mono ?_
                            rintro e W1 ⟨rfl, hQ1, hO1⟩
                            have HQ1 := Lib.hid hQ1
                            have HO1 := Lib.hid hO1
                            clear hQ1 hO1)
    obtain ⟨W2, hW2⟩ : ∃ W2, W2 = (((W1.alloc (.cells #[.int .u8 cl, .int .u8 ty, .int .u64 b] 82)).alloc (.cells #[.int .u8 cl, .int .u8 ty, .int .u64 b, .nilIface, .slice none 0 0, .pointer (some ⟨W1.heap.size + 1 + 1, 0, none⟩), .slice (some ⟨W1.heap.size + 1 + 1 + 1, 0, none⟩) 0 2, .string ⟨#[]⟩] 86)).alloc
        (.cells #[.slice none 0 0, .int .i64 0, .int .i8 0] 134)).alloc (.cells #[.pointer none, .pointer none] 72) := ⟨_, rfl⟩
    obtain ⟨hb12, hI2⟩ := laid_pk W1 cl ty b hW2
    obtain ⟨p, hp⟩ : ∃ p, p = W1.heap.size + 1 := ⟨_, rfl⟩
    rw [← hp] at hI2
    rw [← hW2]
    rw [← hp]
    have hs1 := HO1.out.size
    have HI2 : Hid (IsPk W2 W.heap.size (fun _ => True) p (bare cl ty b .nilIface ⟨#[]⟩)) := Lib.hid (hI2.lower hs1)
    have HO2 : Hid (Only (fun i => i = g) W W2) := Lib.hid (HO1.out.trans (Only.of_below (fun i => i = g) hb12) (fun i _ h => h))
    have HQ2 : Hid (Q W2 (l.drop k)) := Lib.hid (HR.out.keep W1 W2 _ HQ1.out (fun i hi => hb12.block i (Nat.lt_of_lt_of_le hi (Nat.le_trans HB.out hs1))))
    have c1 : W2.cell? ⟨p, 1, none⟩ = some (.int .u8 ty) := by
      obtain ⟨db, v, bv, cv, P⟩ := parts_of HI2.out
      exact P.cell 1
    clear hb12 hI2 hp hW2 HQ1 HO1 hs1
    have HE : Hid (∀ W', Q W' [] → Calls Tryz.prog 123 #[(.iface 248 (.pointer (some va)))] W' fun e w' => e = .returned (.iface 248 (.pointer (some ua))) ∧ w' = W') := Lib.hid (fun W' h => eof_turn va ua W' (HR.out.eof _ _ h) (HR.out.ueof _ _ h))
    have hse : (ty == 32) = false := by rw [HTY.out]; rfl
    have hcl0 : 0 ≤ cl := by have h1 := HALL.out; have h2 := HCL.out; omega
    have hmk0 := mk_none0
    clear HHX
    go_upto_region 41 with fail
    obtain ⟨W5, hW5⟩ : ∃ W5, W5 = W2.alloc (.cells #[] 5) := ⟨_, rfl⟩
    rw [← hW5]
    have HNL : Hid ((0 : Nat) = ((l.drop k).take nn).length) := Lib.hid (by rw [HNN.out.2, List.take_zero]; rfl)
    have HG5 : Hid (Got5 Q g W W2 l k nn cl ty b p W5 (some ⟨W2.heap.size, 0, none⟩) 0 0) := Lib.hid (got0 HR.out HB.out HI2.out HO2.out HQ2.out HNN.out.2 hW5)
    have HNL2 : Hid ((0 : Nat) = ds.length) := Lib.hid (by rw [HDS.out]; exact HNL.out)
    clear hW5
    obtain ⟨db5, v5, bv5, cv5, P5⟩ := parts_of HG5.out.pk
    have g0 : W5.cell? ⟨p, 0, none⟩ = some (.int .u8 cl) := P5.cell 0
    have g5 : W5.cell? ⟨p, 5, none⟩ = some (.pointer (some ⟨db5, 0, none⟩)) := P5.cell 5
    have HWR := Lib.hid (write_ds HG5.out P5 HDS.out HNL.out HDL.out)
    clear P5
    go_wp2_with (go_at_call 107
                 with_reducible refine HWR.out.mono ?_
                 rintro e W6 ⟨u, rfl, hO6, v6, bv6, cv6, hP6, hV6⟩
                 have g2 : W6.cell? ⟨p, 2, none⟩ = some (.int .u64 b) := hP6.cell 2
                 have g3 : W6.cell? ⟨p, 3, none⟩ = some .nilIface := hP6.cell 3
                 have g4 : W6.cell? ⟨p, 4, none⟩ = some bv6 := hP6.cell 4
                 have gf3 := hP6.frozen 3
                 have gf4 := hP6.frozen 4
                 have HP6 := Lib.hid hP6
                 have HV6 := Lib.hid hV6
                 have HO6 := Lib.hid hO6
                 have HP7 := Lib.hid (Parts_setBv hP6 (.slice (some ⟨W2.heap.size, 0, none⟩) 0 0) ds (by exact hV6)).1
                 clear hO6 hP6 hV6)
    go_ret3
    refine ⟨fun _ => ⟨p, ?_, ?_, ?_⟩, fun h => absurd h (by have := HWH.out; omega), ?_⟩
    · have e : k2 = ((k + nn : Nat) : Int) := by have h1 := HK2.out; have h2 := HNN.out; omega
      show Ending.returned (.tuple #[.pointer (some ⟨p, 0, none⟩), .int .i64 k2, .nilIface]) = _
      rw [e]
    · have h := HP7.out.pk
      have e : rdPk ⟨a, b, false, dd, []⟩ = ⟨cl, ty, b, .nilIface, ds, ds, [], ⟨#[]⟩⟩ := by rw [← HDE.out, HCL.out, HTY.out, HA0.out, HB0.out]; simp [rdPk, valOf]
      rw [e]
      exact h
    · exact HR.out.keep W6 _ _ (HR.out.keep W5 W6 _ HG5.out.q (fun i hi => HO6.out.block i (blk_lt0 HG5.out.on (Nat.lt_of_lt_of_le hi HB.out)) (Nat.not_le.2 (Nat.lt_of_lt_of_le hi HB.out)))) (fun i hi => by
        rw [Below.heap_setCell _ ⟨p, 4, none⟩ _ i (by show i ≠ p; have h1 := HP6.out.leb; have h2 := HB.out; omega)])
    · exact (HG5.out.on.trans HO6.out (fun i hi h => absurd h (Nat.not_le.2 hi))).setCell (a := ⟨p, 4, none⟩) (fun h => absurd h (Nat.not_lt.2 HP6.out.leb)) _
set_option maxHeartbeats 6400000 in
set_option maxRecDepth 100000 in
theorem readPk_pn (R : RdSpec T F r g B va ua Q) (a b : Int) (dd : List Int) (hkp : kp ⟨a, b, false, dd, []⟩) (hgood : good ⟨a, b, false, dd, []⟩ = true) (hts : tsize ⟨a, b, false, dd, []⟩ ≤ 1000000) (W : World) (l m : List Int) (k nn : Nat) (depth : Int) (hQ : Q W l) (hB : B ≤ W.heap.size) (hh : hdrB (l ++ m) = some (a, false, b, (nn : Int), k)) (hkn : k + nn ≤ (l ++ m).length) (hx : ∀ y ∈ l ++ m, 0 ≤ y ∧ y < 256) (hlm : (l ++ m).length ≤ 1000000) (h0 : 0 ≤ depth) (h1000 : depth < 1000) (hdd : dd = ((l ++ m).drop k).take nn) (hk : k ≤ l.length) (hw : k + nn ≤ l.length) (hz : nn ≠ 0) (ha : a ≠ 0) :
    Calls Tryz.prog 104 #[.iface T r, .int .i64 depth] W (Rdd g va ua Q W l (k + nn) ⟨a, b, false, dd, []⟩) := by
    have hall := hdrB_all hh hx
    simp only at hall
    have HH := header_any R W l m a b (nn : Int) false k hQ hB hh hx
    obtain ⟨n2, hn2⟩ : ∃ n2 : Int, n2 = (nn : Int) := ⟨_, rfl⟩
    obtain ⟨k2, hk2⟩ : ∃ k2 : Int, k2 = (k : Int) := ⟨_, rfl⟩
    rw [← hn2, ← hk2] at HH
    have hkl := (hdrB_app [] hh).2.2
    simp only at hkl
    have hn0 : 0 ≤ n2 := by omega
    have hn1 : n2 ≤ 1000000 := by omega
    have hk0 : 0 ≤ k2 := by omega
    have hk1 : k2 ≤ 1000000 := by omega
    have hde : decide (depth ≥ 1000) = false := decide_eq_false (by omega)
    have hde2 : decide (1000 ≤ depth) = false := decide_eq_false (by omega)
    have hne : (n2 != -1) = true := by simp; omega
    have hnq : (n2 == -1) = false := by simp; omega
    have hnm2 : decide (2147483647 < n2) = false := decide_eq_false (by omega)
    have hde9 : depth ≤ 1000 := by omega
    obtain ⟨ty, hty⟩ : ∃ ty : Int, ty = 0 := ⟨_, rfl⟩
    obtain ⟨cl, hcl⟩ : ∃ cl : Int, cl = a * 64 := ⟨_, rfl⟩
    rw [if_neg Bool.false_ne_true, ← hty, ← hcl] at HH
    obtain ⟨ds, hds⟩ : ∃ ds, ds = (l.drop k).take nn := ⟨_, rfl⟩
    have HDE : Hid (ds = dd) := Lib.hid (by rw [hds, hdd, List.drop_append_of_le_length hk, List.take_append_of_le_length (by rw [List.length_drop]; omega)])
    have HDL : Hid (ds.length = nn ∧ nn ≤ 1000000) := Lib.hid ⟨by rw [hds, List.length_take, List.length_drop]; omega, by omega⟩
    have HBY : Hid (∀ y ∈ ds, 0 ≤ y ∧ y < 256) := Lib.hid (fun y hy => hx y (List.mem_append_left _ (by rw [hds] at hy; exact List.mem_of_mem_drop (List.mem_of_mem_take hy))))
    have HWH := Lib.hid hw
    have HDS := Lib.hid hds
    have HNN : Hid (n2 = (nn : Int) ∧ True) := Lib.hid ⟨hn2, trivial⟩
    have HA0 : Hid (a ≠ 0) := Lib.hid ha
    have hcz : (cl == 0) = false := by simp; omega
    have hz2 : decide (0 < n2) = true := decide_eq_true (by omega)
    clear hw hds hz ha
    have HHX : Hid (Calls Tryz.prog 122 #[.iface T r] W fun e w' => e = .returned (.tuple #[.agg #[.int .u8 cl, .int .u8 ty, .int .u64 b], .int .i64 n2, .int .i64 k2, .nilIface]) ∧ Q w' (l.drop k) ∧ Only (fun i => i = g) W w') := Lib.hid (by
      refine HH.mono ?_
      rintro e w' ⟨h1, _, ho⟩
      obtain ⟨he, hq⟩ := h1 hk
      exact ⟨he, hq, ho⟩)
    have hmk := mk_kids2
    have HR := Lib.hid R
    have HXX := Lib.hid hx
    have HHH := Lib.hid hh
    have HALL := Lib.hid hall
    have HN2 := Lib.hid hn2
    have HK2 := Lib.hid hk2
    have HTY := Lib.hid hty
    have HCL := Lib.hid hcl
    have HKL := Lib.hid hk
    have HB := Lib.hid hB
    have HGD := Lib.hid hgood
    have HTS := Lib.hid hts
    have HLM := Lib.hid hlm
    have HKP := Lib.hid hkp
    have HDD := Lib.hid hdd
    have HKN := Lib.hid hkn
    clear hdd hkn
    clear HH hh R hx hkp hQ hall hn2 hk2 hty hcl hk hB hgood hts hlm hkl
    go_enter Tryz.func104, Tryz.ntmps104
    go_upto_region 12 with (go_at_call 122
                            with_reducible refine HHX.out.mono ?_
                            rintro e W1 ⟨rfl, hQ1, hO1⟩
                            have HQ1 := Lib.hid hQ1
                            have HO1 := Lib.hid hO1
                            clear hQ1 hO1)
    obtain ⟨W2, hW2⟩ : ∃ W2, W2 = (((W1.alloc (.cells #[.int .u8 cl, .int .u8 ty, .int .u64 b] 82)).alloc (.cells #[.int .u8 cl, .int .u8 ty, .int .u64 b, .nilIface, .slice none 0 0, .pointer (some ⟨W1.heap.size + 1 + 1, 0, none⟩), .slice (some ⟨W1.heap.size + 1 + 1 + 1, 0, none⟩) 0 2, .string ⟨#[]⟩] 86)).alloc
        (.cells #[.slice none 0 0, .int .i64 0, .int .i8 0] 134)).alloc (.cells #[.pointer none, .pointer none] 72) := ⟨_, rfl⟩
    obtain ⟨hb12, hI2⟩ := laid_pk W1 cl ty b hW2
    obtain ⟨p, hp⟩ : ∃ p, p = W1.heap.size + 1 := ⟨_, rfl⟩
    rw [← hp] at hI2
    rw [← hW2]
    rw [← hp]
    have hs1 := HO1.out.size
    have HI2 : Hid (IsPk W2 W.heap.size (fun _ => True) p (bare cl ty b .nilIface ⟨#[]⟩)) := Lib.hid (hI2.lower hs1)
    have HO2 : Hid (Only (fun i => i = g) W W2) := Lib.hid (HO1.out.trans (Only.of_below (fun i => i = g) hb12) (fun i _ h => h))
    have HQ2 : Hid (Q W2 (l.drop k)) := Lib.hid (HR.out.keep W1 W2 _ HQ1.out (fun i hi => hb12.block i (Nat.lt_of_lt_of_le hi (Nat.le_trans HB.out hs1))))
    have c1 : W2.cell? ⟨p, 1, none⟩ = some (.int .u8 ty) := by
      obtain ⟨db, v, bv, cv, P⟩ := parts_of HI2.out
      exact P.cell 1
    clear hb12 hI2 hp hW2 HQ1 HO1 hs1
    have HE : Hid (∀ W', Q W' [] → Calls Tryz.prog 123 #[(.iface 248 (.pointer (some va)))] W' fun e w' => e = .returned (.iface 248 (.pointer (some ua))) ∧ w' = W') := Lib.hid (fun W' h => eof_turn va ua W' (HR.out.eof _ _ h) (HR.out.ueof _ _ h))
    have hse : (ty == 32) = false := by rw [HTY.out]; rfl
    have hcl0 : 0 ≤ cl := by have h1 := HALL.out; have h2 := HCL.out; omega
    have hmk0 := mk_none0
    clear HHX
    have HLR := Lib.hid (limReader_any n2 T r W2)
    have HRA : Hid (∀ W3, W3 = W2.alloc (.cells #[.iface T r, .int .i64 n2] 285) → Calls Tryz.prog 125 #[.iface 283 (.pointer (some ⟨W2.heap.size, 0, none⟩))] W3 fun e w' => ∃ Av cv nl, e = .returned (.tuple #[.slice Av nl cv, .nilIface]) ∧ nl = ((l.drop k).take nn).length ∧ Got5 Q g W W2 l k nn cl ty b p w' Av nl cv) := Lib.hid (fun W3 hW3 => got5 HR.out HB.out HI2.out HO2.out HQ2.out HN2.out (by have := HN2.out; omega) (by have h1 := HLM.out; rw [List.length_append] at h1; omega) hW3)
    go_upto_region 41 with (first
      | (go_at_call 126
         with_reducible refine HLR.out.mono ?_
         rintro e W3 ⟨rfl, hw3⟩
         have HW3 := Lib.hid hw3
         clear hw3)
      | (go_at_call 125
         with_reducible refine (HRA.out W3 HW3.out).mono ?_
         rintro e W5 ⟨Av, cv, nl, rfl, hnl, hG5⟩
         have HG5 := Lib.hid hG5
         have HNL := Lib.hid hnl
         have d4 : decide ((nl : Int) < n2) = false := decide_eq_false (by have h1 := HDS.out; have h2 := HDL.out; have h3 := HNN.out; rw [hnl, ← h1]; omega)
         have hnb : (nl : Int) ≤ 1000000 := by have h1 := HDS.out; have h2 := HDL.out; rw [hnl, ← h1]; omega
         have hnb0 : 0 ≤ (nl : Int) := by omega
         clear hG5 hnl))
    have HNL2 : Hid (nl = ds.length) := Lib.hid (by rw [HDS.out]; exact HNL.out)
    obtain ⟨db5, v5, bv5, cv5, P5⟩ := parts_of HG5.out.pk
    have g0 : W5.cell? ⟨p, 0, none⟩ = some (.int .u8 cl) := P5.cell 0
    have g5 : W5.cell? ⟨p, 5, none⟩ = some (.pointer (some ⟨db5, 0, none⟩)) := P5.cell 5
    have HWR := Lib.hid (write_ds HG5.out P5 HDS.out HNL.out HDL.out)
    clear P5
    go_wp2_with (go_at_call 107
                 with_reducible refine HWR.out.mono ?_
                 rintro e W6 ⟨u, rfl, hO6, v6, bv6, cv6, hP6, hV6⟩
                 have g2 : W6.cell? ⟨p, 2, none⟩ = some (.int .u64 b) := hP6.cell 2
                 have g3 : W6.cell? ⟨p, 3, none⟩ = some .nilIface := hP6.cell 3
                 have g4 : W6.cell? ⟨p, 4, none⟩ = some bv6 := hP6.cell 4
                 have gf3 := hP6.frozen 3
                 have gf4 := hP6.frozen 4
                 have HP6 := Lib.hid hP6
                 have HV6 := Lib.hid hV6
                 have HO6 := Lib.hid hO6
                 clear hO6 hP6 hV6)
    go_ret3
    refine ⟨fun _ => ⟨p, ?_, ?_, ?_⟩, fun h => absurd h (by have := HWH.out; omega), ?_⟩
    · have e : (k2 + (nl : Int)) = ((k + nn : Nat) : Int) := by have h1 := HK2.out; have h2 := HNN.out; have h3 := HNL2.out; have h4 := HDL.out; omega
      show Ending.returned (.tuple #[.pointer (some ⟨p, 0, none⟩), .int .i64 (k2 + (nl : Int)), .nilIface]) = _
      rw [e]
    · have h := HP6.out.pk
      have e : rdPk ⟨a, b, false, dd, []⟩ = ⟨cl, ty, b, .nilIface, [], ds, [], ⟨#[]⟩⟩ := by rw [← HDE.out, HCL.out, HTY.out]; simp [rdPk, HA0.out]
      rw [e]
      exact h
    · exact HR.out.keep W5 W6 _ HG5.out.q (fun i hi => HO6.out.block i (blk_lt0 HG5.out.on (Nat.lt_of_lt_of_le hi HB.out)) (Nat.not_le.2 (Nat.lt_of_lt_of_le hi HB.out)))
    · exact HG5.out.on.trans HO6.out (fun i hi h => absurd h (Nat.not_le.2 hi))
set_option maxHeartbeats 6400000 in
set_option maxRecDepth 100000 in
theorem readPk_pn0 (R : RdSpec T F r g B va ua Q) (a b : Int) (dd : List Int) (hkp : kp ⟨a, b, false, dd, []⟩) (hgood : good ⟨a, b, false, dd, []⟩ = true) (hts : tsize ⟨a, b, false, dd, []⟩ ≤ 1000000) (W : World) (l m : List Int) (k nn : Nat) (depth : Int) (hQ : Q W l) (hB : B ≤ W.heap.size) (hh : hdrB (l ++ m) = some (a, false, b, (nn : Int), k)) (hkn : k + nn ≤ (l ++ m).length) (hx : ∀ y ∈ l ++ m, 0 ≤ y ∧ y < 256) (hlm : (l ++ m).length ≤ 1000000) (h0 : 0 ≤ depth) (h1000 : depth < 1000) (hdd : dd = ((l ++ m).drop k).take nn) (hk : k ≤ l.length) (hw : k + nn ≤ l.length) (hz : nn = 0) (ha : a ≠ 0) :
    Calls Tryz.prog 104 #[.iface T r, .int .i64 depth] W (Rdd g va ua Q W l (k + nn) ⟨a, b, false, dd, []⟩) := by
    have hall := hdrB_all hh hx
    simp only at hall
    have HH := header_any R W l m a b (nn : Int) false k hQ hB hh hx
    obtain ⟨n2, hn2⟩ : ∃ n2 : Int, n2 = (nn : Int) := ⟨_, rfl⟩
    obtain ⟨k2, hk2⟩ : ∃ k2 : Int, k2 = (k : Int) := ⟨_, rfl⟩
    rw [← hn2, ← hk2] at HH
    have hkl := (hdrB_app [] hh).2.2
    simp only at hkl
    have hn0 : 0 ≤ n2 := by omega
    have hn1 : n2 ≤ 1000000 := by omega
    have hk0 : 0 ≤ k2 := by omega
    have hk1 : k2 ≤ 1000000 := by omega
    have hde : decide (depth ≥ 1000) = false := decide_eq_false (by omega)
    have hde2 : decide (1000 ≤ depth) = false := decide_eq_false (by omega)
    have hne : (n2 != -1) = true := by simp; omega
    have hnq : (n2 == -1) = false := by simp; omega
    have hnm2 : decide (2147483647 < n2) = false := decide_eq_false (by omega)
    have hde9 : depth ≤ 1000 := by omega
    obtain ⟨ty, hty⟩ : ∃ ty : Int, ty = 0 := ⟨_, rfl⟩
    obtain ⟨cl, hcl⟩ : ∃ cl : Int, cl = a * 64 := ⟨_, rfl⟩
    rw [if_neg Bool.false_ne_true, ← hty, ← hcl] at HH
    obtain ⟨ds, hds⟩ : ∃ ds, ds = (l.drop k).take nn := ⟨_, rfl⟩
    have HDE : Hid (ds = dd) := Lib.hid (by rw [hds, hdd, List.drop_append_of_le_length hk, List.take_append_of_le_length (by rw [List.length_drop]; omega)])
    have HDL : Hid (ds.length = nn ∧ nn ≤ 1000000) := Lib.hid ⟨by rw [hds, List.length_take, List.length_drop]; omega, by omega⟩
    have HBY : Hid (∀ y ∈ ds, 0 ≤ y ∧ y < 256) := Lib.hid (fun y hy => hx y (List.mem_append_left _ (by rw [hds] at hy; exact List.mem_of_mem_drop (List.mem_of_mem_take hy))))
    have HWH := Lib.hid hw
    have HDS := Lib.hid hds
    have HNN : Hid (n2 = (nn : Int) ∧ nn = 0) := Lib.hid ⟨hn2, hz⟩
    have HA0 : Hid (a ≠ 0) := Lib.hid ha
    have hcz : (cl == 0) = false := by simp; omega
    have hz2 : decide (0 < n2) = false := decide_eq_false (by omega)
    clear hw hds hz ha
    have HHX : Hid (Calls Tryz.prog 122 #[.iface T r] W fun e w' => e = .returned (.tuple #[.agg #[.int .u8 cl, .int .u8 ty, .int .u64 b], .int .i64 n2, .int .i64 k2, .nilIface]) ∧ Q w' (l.drop k) ∧ Only (fun i => i = g) W w') := Lib.hid (by
      refine HH.mono ?_
      rintro e w' ⟨h1, _, ho⟩
      obtain ⟨he, hq⟩ := h1 hk
      exact ⟨he, hq, ho⟩)
    have hmk := mk_kids2
    have HR := Lib.hid R
    have HXX := Lib.hid hx
    have HHH := Lib.hid hh
    have HALL := Lib.hid hall
    have HN2 := Lib.hid hn2
    have HK2 := Lib.hid hk2
    have HTY := Lib.hid hty
    have HCL := Lib.hid hcl
    have HKL := Lib.hid hk
    have HB := Lib.hid hB
    have HGD := Lib.hid hgood
    have HTS := Lib.hid hts
    have HLM := Lib.hid hlm
    have HKP := Lib.hid hkp
    have HDD := Lib.hid hdd
    have HKN := Lib.hid hkn
    clear hdd hkn
    clear HH hh R hx hkp hQ hall hn2 hk2 hty hcl hk hB hgood hts hlm hkl
    go_enter Tryz.func104, Tryz.ntmps104
    go_upto_region 12 with (go_at_call 122
                            with_reducible refine HHX.out.mono ?_
                            rintro e W1 ⟨rfl, hQ1, hO1⟩
                            have HQ1 := Lib.hid hQ1
                            have HO1 := Lib.hid hO1
                            clear hQ1 hO1)
    obtain ⟨W2, hW2⟩ : ∃ W2, W2 = (((W1.alloc (.cells #[.int .u8 cl, .int .u8 ty, .int .u64 b] 82)).alloc (.cells #[.int .u8 cl, .int .u8 ty, .int .u64 b, .nilIface, .slice none 0 0, .pointer (some ⟨W1.heap.size + 1 + 1, 0, none⟩), .slice (some ⟨W1.heap.size + 1 + 1 + 1, 0, none⟩) 0 2, .string ⟨#[]⟩] 86)).alloc
        (.cells #[.slice none 0 0, .int .i64 0, .int .i8 0] 134)).alloc (.cells #[.pointer none, .pointer none] 72) := ⟨_, rfl⟩
    obtain ⟨hb12, hI2⟩ := laid_pk W1 cl ty b hW2
    obtain ⟨p, hp⟩ : ∃ p, p = W1.heap.size + 1 := ⟨_, rfl⟩
    rw [← hp] at hI2
    rw [← hW2]
    rw [← hp]
    have hs1 := HO1.out.size
    have HI2 : Hid (IsPk W2 W.heap.size (fun _ => True) p (bare cl ty b .nilIface ⟨#[]⟩)) := Lib.hid (hI2.lower hs1)
    have HO2 : Hid (Only (fun i => i = g) W W2) := Lib.hid (HO1.out.trans (Only.of_below (fun i => i = g) hb12) (fun i _ h => h))
    have HQ2 : Hid (Q W2 (l.drop k)) := Lib.hid (HR.out.keep W1 W2 _ HQ1.out (fun i hi => hb12.block i (Nat.lt_of_lt_of_le hi (Nat.le_trans HB.out hs1))))
    have c1 : W2.cell? ⟨p, 1, none⟩ = some (.int .u8 ty) := by
      obtain ⟨db, v, bv, cv, P⟩ := parts_of HI2.out
      exact P.cell 1
    clear hb12 hI2 hp hW2 HQ1 HO1 hs1
    have HE : Hid (∀ W', Q W' [] → Calls Tryz.prog 123 #[(.iface 248 (.pointer (some va)))] W' fun e w' => e = .returned (.iface 248 (.pointer (some ua))) ∧ w' = W') := Lib.hid (fun W' h => eof_turn va ua W' (HR.out.eof _ _ h) (HR.out.ueof _ _ h))
    have hse : (ty == 32) = false := by rw [HTY.out]; rfl
    have hcl0 : 0 ≤ cl := by have h1 := HALL.out; have h2 := HCL.out; omega
    have hmk0 := mk_none0
    clear HHX
    go_upto_region 41 with fail
    obtain ⟨W5, hW5⟩ : ∃ W5, W5 = W2.alloc (.cells #[] 5) := ⟨_, rfl⟩
    rw [← hW5]
    have HNL : Hid ((0 : Nat) = ((l.drop k).take nn).length) := Lib.hid (by rw [HNN.out.2, List.take_zero]; rfl)
    have HG5 : Hid (Got5 Q g W W2 l k nn cl ty b p W5 (some ⟨W2.heap.size, 0, none⟩) 0 0) := Lib.hid (got0 HR.out HB.out HI2.out HO2.out HQ2.out HNN.out.2 hW5)
    have HNL2 : Hid ((0 : Nat) = ds.length) := Lib.hid (by rw [HDS.out]; exact HNL.out)
    clear hW5
    obtain ⟨db5, v5, bv5, cv5, P5⟩ := parts_of HG5.out.pk
    have g0 : W5.cell? ⟨p, 0, none⟩ = some (.int .u8 cl) := P5.cell 0
    have g5 : W5.cell? ⟨p, 5, none⟩ = some (.pointer (some ⟨db5, 0, none⟩)) := P5.cell 5
    have HWR := Lib.hid (write_ds HG5.out P5 HDS.out HNL.out HDL.out)
    clear P5
    go_wp2_with (go_at_call 107
                 with_reducible refine HWR.out.mono ?_
                 rintro e W6 ⟨u, rfl, hO6, v6, bv6, cv6, hP6, hV6⟩
                 have g2 : W6.cell? ⟨p, 2, none⟩ = some (.int .u64 b) := hP6.cell 2
                 have g3 : W6.cell? ⟨p, 3, none⟩ = some .nilIface := hP6.cell 3
                 have g4 : W6.cell? ⟨p, 4, none⟩ = some bv6 := hP6.cell 4
                 have gf3 := hP6.frozen 3
                 have gf4 := hP6.frozen 4
                 have HP6 := Lib.hid hP6
                 have HV6 := Lib.hid hV6
                 have HO6 := Lib.hid hO6
                 clear hO6 hP6 hV6)
    go_ret3
    refine ⟨fun _ => ⟨p, ?_, ?_, ?_⟩, fun h => absurd h (by have := HWH.out; omega), ?_⟩
    · have e : k2 = ((k + nn : Nat) : Int) := by have h1 := HK2.out; have h2 := HNN.out; omega
      show Ending.returned (.tuple #[.pointer (some ⟨p, 0, none⟩), .int .i64 k2, .nilIface]) = _
      rw [e]
    · have h := HP6.out.pk
      have e : rdPk ⟨a, b, false, dd, []⟩ = ⟨cl, ty, b, .nilIface, [], ds, [], ⟨#[]⟩⟩ := by rw [← HDE.out, HCL.out, HTY.out]; simp [rdPk, HA0.out]
      rw [e]
      exact h
    · exact HR.out.keep W5 W6 _ HG5.out.q (fun i hi => HO6.out.block i (blk_lt0 HG5.out.on (Nat.lt_of_lt_of_le hi HB.out)) (Nat.not_le.2 (Nat.lt_of_lt_of_le hi HB.out)))
    · exact HG5.out.on.trans HO6.out (fun i hi h => absurd h (Nat.not_le.2 hi))

end
end Go.Proofs.YteockihoefbmdaaGreatDoor.Ber
namespace Go.Proofs.YteockihoefbmdaaGreatDoor.Ber
open Go.RowKit Go.Proofs.YteockihoefbmdaaGreatDoorW.PrintWords Go.Proofs.YteockihoefbmdaaGreatDoorW.PrintLast Go.Proofs.YteockihoefbmdaaGreatDoor.Buf Go.Proofs.YteockihoefbmdaaGreatDoor.Pk Go.Proofs.YteockihoefbmdaaGreatDoor.Tree Go.Proofs.YteockihoefbmdaaGreatDoor.Num Go.Proofs.YteockihoefbmdaaGreatDoor.Ident Go.Proofs.YteockihoefbmdaaGreatDoor.PFnEncode
set_option linter.unusedVariables false
set_option linter.unusedSimpArgs false

section
variable {T F : Nat} {r : Value} {g B : Nat} {va ua : Addr} {Q : World → List Int → Prop}
set_option maxHeartbeats 6400000 in
set_option maxRecDepth 100000 in
theorem readPk_pcut (R : RdSpec T F r g B va ua Q) (a b : Int) (dd : List Int) (hkp : kp ⟨a, b, false, dd, []⟩) (hgood : good ⟨a, b, false, dd, []⟩ = true) (hts : tsize ⟨a, b, false, dd, []⟩ ≤ 1000000) (W : World) (l m : List Int) (k nn : Nat) (depth : Int) (hQ : Q W l) (hB : B ≤ W.heap.size) (hh : hdrB (l ++ m) = some (a, false, b, (nn : Int), k)) (hkn : k + nn ≤ (l ++ m).length) (hx : ∀ y ∈ l ++ m, 0 ≤ y ∧ y < 256) (hlm : (l ++ m).length ≤ 1000000) (h0 : 0 ≤ depth) (h1000 : depth < 1000) (hk : k ≤ l.length) (hw : l.length < k + nn) :
    Calls Tryz.prog 104 #[.iface T r, .int .i64 depth] W (Rdd g va ua Q W l (k + nn) ⟨a, b, false, dd, []⟩) := by
    have hall := hdrB_all hh hx
    simp only at hall
    have HH := header_any R W l m a b (nn : Int) false k hQ hB hh hx
    obtain ⟨n2, hn2⟩ : ∃ n2 : Int, n2 = (nn : Int) := ⟨_, rfl⟩
    obtain ⟨k2, hk2⟩ : ∃ k2 : Int, k2 = (k : Int) := ⟨_, rfl⟩
    rw [← hn2, ← hk2] at HH
    have hkl := (hdrB_app [] hh).2.2
    simp only at hkl
    have hn0 : 0 ≤ n2 := by omega
    have hn1 : n2 ≤ 1000000 := by omega
    have hk0 : 0 ≤ k2 := by omega
    have hk1 : k2 ≤ 1000000 := by omega
    have hde : decide (depth ≥ 1000) = false := decide_eq_false (by omega)
    have hde2 : decide (1000 ≤ depth) = false := decide_eq_false (by omega)
    have hne : (n2 != -1) = true := by simp; omega
    have hnq : (n2 == -1) = false := by simp; omega
    have hnm2 : decide (2147483647 < n2) = false := decide_eq_false (by omega)
    have hde9 : depth ≤ 1000 := by omega
    obtain ⟨ty, hty⟩ : ∃ ty : Int, ty = 0 := ⟨_, rfl⟩
    obtain ⟨cl, hcl⟩ : ∃ cl : Int, cl = a * 64 := ⟨_, rfl⟩
    rw [if_neg Bool.false_ne_true, ← hty, ← hcl] at HH
    have HWH := Lib.hid hw
    have HDL : Hid (((l.drop k).take nn).length < nn) := Lib.hid (by rw [List.length_take, List.length_drop]; omega)
    have hz2 : decide (0 < n2) = true := decide_eq_true (by omega)
    clear hw
    have HHX : Hid (Calls Tryz.prog 122 #[.iface T r] W fun e w' => e = .returned (.tuple #[.agg #[.int .u8 cl, .int .u8 ty, .int .u64 b], .int .i64 n2, .int .i64 k2, .nilIface]) ∧ Q w' (l.drop k) ∧ Only (fun i => i = g) W w') := Lib.hid (by
      refine HH.mono ?_
      rintro e w' ⟨h1, _, ho⟩
      obtain ⟨he, hq⟩ := h1 hk
      exact ⟨he, hq, ho⟩)
    have hmk := mk_kids2
    have HR := Lib.hid R
    have HXX := Lib.hid hx
    have HHH := Lib.hid hh
    have HALL := Lib.hid hall
    have HN2 := Lib.hid hn2
    have HK2 := Lib.hid hk2
    have HTY := Lib.hid hty
    have HCL := Lib.hid hcl
    have HKL := Lib.hid hk
    have HB := Lib.hid hB
    have HGD := Lib.hid hgood
    have HTS := Lib.hid hts
    have HLM := Lib.hid hlm
    have HKP := Lib.hid hkp
    clear hkn
    clear HH hh R hx hkp hQ hall hn2 hk2 hty hcl hk hB hgood hts hlm hkl
    go_enter Tryz.func104, Tryz.ntmps104
    go_upto_region 12 with (go_at_call 122
                            with_reducible refine HHX.out.mono ?_
                            rintro e W1 ⟨rfl, hQ1, hO1⟩
                            have HQ1 := Lib.hid hQ1
                            have HO1 := Lib.hid hO1
                            clear hQ1 hO1)
    obtain ⟨W2, hW2⟩ : ∃ W2, W2 = (((W1.alloc (.cells #[.int .u8 cl, .int .u8 ty, .int .u64 b] 82)).alloc (.cells #[.int .u8 cl, .int .u8 ty, .int .u64 b, .nilIface, .slice none 0 0, .pointer (some ⟨W1.heap.size + 1 + 1, 0, none⟩), .slice (some ⟨W1.heap.size + 1 + 1 + 1, 0, none⟩) 0 2, .string ⟨#[]⟩] 86)).alloc
        (.cells #[.slice none 0 0, .int .i64 0, .int .i8 0] 134)).alloc (.cells #[.pointer none, .pointer none] 72) := ⟨_, rfl⟩
    obtain ⟨hb12, hI2⟩ := laid_pk W1 cl ty b hW2
    obtain ⟨p, hp⟩ : ∃ p, p = W1.heap.size + 1 := ⟨_, rfl⟩
    rw [← hp] at hI2
    rw [← hW2]
    rw [← hp]
    have hs1 := HO1.out.size
    have HI2 : Hid (IsPk W2 W.heap.size (fun _ => True) p (bare cl ty b .nilIface ⟨#[]⟩)) := Lib.hid (hI2.lower hs1)
    have HO2 : Hid (Only (fun i => i = g) W W2) := Lib.hid (HO1.out.trans (Only.of_below (fun i => i = g) hb12) (fun i _ h => h))
    have HQ2 : Hid (Q W2 (l.drop k)) := Lib.hid (HR.out.keep W1 W2 _ HQ1.out (fun i hi => hb12.block i (Nat.lt_of_lt_of_le hi (Nat.le_trans HB.out hs1))))
    have c1 : W2.cell? ⟨p, 1, none⟩ = some (.int .u8 ty) := by
      obtain ⟨db, v, bv, cv, P⟩ := parts_of HI2.out
      exact P.cell 1
    clear hb12 hI2 hp hW2 HQ1 HO1 hs1
    have HE : Hid (∀ W', Q W' [] → Calls Tryz.prog 123 #[(.iface 248 (.pointer (some va)))] W' fun e w' => e = .returned (.iface 248 (.pointer (some ua))) ∧ w' = W') := Lib.hid (fun W' h => eof_turn va ua W' (HR.out.eof _ _ h) (HR.out.ueof _ _ h))
    have hse : (ty == 32) = false := by rw [HTY.out]; rfl
    have HLR := Lib.hid (limReader_any n2 T r W2)
    have HRA : Hid (∀ W3, W3 = W2.alloc (.cells #[.iface T r, .int .i64 n2] 285) → Calls Tryz.prog 125 #[.iface 283 (.pointer (some ⟨W2.heap.size, 0, none⟩))] W3 fun e w' => ∃ Av cv nl, e = .returned (.tuple #[.slice Av nl cv, .nilIface]) ∧ nl = ((l.drop k).take nn).length ∧ Got5 Q g W W2 l k nn cl ty b p w' Av nl cv) := Lib.hid (fun W3 hW3 => got5 HR.out HB.out HI2.out HO2.out HQ2.out HN2.out (by have := HN2.out; omega) (by have h1 := HLM.out; rw [List.length_append] at h1; omega) hW3)
    go_wp2_with (first
      | (go_at_call 126
         with_reducible refine HLR.out.mono ?_
         rintro e W3 ⟨rfl, hw3⟩
         have HW3 := Lib.hid hw3
         clear hw3)
      | (go_at_call 125
         with_reducible refine (HRA.out W3 HW3.out).mono ?_
         rintro e W5 ⟨Av, cv, nl, rfl, hnl, hG5⟩
         have HG5 := Lib.hid hG5
         have HNL := Lib.hid hnl
         have d4 : decide ((nl : Int) < n2) = true := decide_eq_true (by have h2 := HDL.out; have h3 := HN2.out; omega)
         have hnb : (nl : Int) ≤ 1000000 := by have h2 := HDL.out; have h3 := HN2.out; omega
         have hnb0 : 0 ≤ (nl : Int) := by omega
         have HQN : Hid (Q W5 []) := Lib.hid (by have h := hG5.q; rwa [List.drop_eq_nil_of_le (by have := HWH.out; omega)] at h)
         have he0 := HR.out.eof _ _ HQN.out
         clear HRA
         clear hG5 hnl)
      | (go_at_call 123
         with_reducible refine (HE.out W5 HQN.out).mono ?_
         rintro e W7 ⟨rfl, rfl⟩))
    go_ret3
    exact ⟨fun h => absurd h (by have := HWH.out; omega), fun _ => ⟨⟨k2, ua, rfl, .inr rfl⟩, HQN.out⟩, HG5.out.on⟩
theorem readPk (R : RdSpec T F r g B va ua Q) : ∀ (d : Nat) (x : S34), dpx x ≤ d → kp x → good x = true → tsize x ≤ 1000000 → ∀ (W : World) (l m : List Int) (n : Nat) (depth : Int), Q W l → B ≤ W.heap.size → Par (l ++ m) x n → (∀ y ∈ l ++ m, 0 ≤ y ∧ y < 256) → (l ++ m).length ≤ 1000000 → 0 ≤ depth → depth + d ≤ 1000 →
    Calls Tryz.prog 104 #[.iface T r, .int .i64 depth] W (Rdd g va ua Q W l n x) := by
  intro d
  induction d with
  | zero =>
    rintro ⟨a, b, c, dd, ks⟩ hd
    rw [dpx] at hd
    omega
  | succ d ih =>
    rintro x hd hkp hgood hts W l m n depth hQ hB hP hx hlm h0 h1000
    cases hP with
    | @prim _ cls tag nn k hh hn =>
      by_cases hk : k ≤ l.length
      · by_cases hw : k + nn ≤ l.length
        · have hkp' := hkp
          rw [kp] at hkp'
          have hlen : (((l ++ m).drop k).take nn).length = nn := by rw [List.length_take, List.length_drop]; omega
          by_cases ha : cls = 0
          · have h := hkp'.1 ha rfl
            rw [hlen] at h
            rcases h with ⟨hb, h⟩ | ⟨hb | hb, h, h8⟩ | hb | ⟨hb, h⟩
            · exact readPk_p1 R cls tag _ hkp hgood hts W l m k nn depth hQ hB hh hn hx hlm h0 (by omega) rfl hk hw (by omega) ha hb (by rw [hlen]; omega)
            · exact readPk_p2 R cls tag _ hkp hgood hts W l m k nn depth hQ hB hh hn hx hlm h0 (by omega) rfl hk hw (by omega) ha hb (by rw [hlen]; omega)
            · exact readPk_p10 R cls tag _ hkp hgood hts W l m k nn depth hQ hB hh hn hx hlm h0 (by omega) rfl hk hw (by omega) ha hb (by rw [hlen]; omega)
            · by_cases hz : nn = 0
              · exact readPk_p40 R cls tag _ hkp hgood hts W l m k nn depth hQ hB hh hn hx hlm h0 (by omega) rfl hk hw hz ha hb
              · exact readPk_p4 R cls tag _ hkp hgood hts W l m k nn depth hQ hB hh hn hx hlm h0 (by omega) rfl hk hw hz ha hb
            · exact readPk_p50 R cls tag _ hkp hgood hts W l m k nn depth hQ hB hh hn hx hlm h0 (by omega) rfl hk hw h ha hb
          · by_cases hz : nn = 0
            · exact readPk_pn0 R cls tag _ hkp hgood hts W l m k nn depth hQ hB hh hn hx hlm h0 (by omega) rfl hk hw hz ha
            · exact readPk_pn R cls tag _ hkp hgood hts W l m k nn depth hQ hB hh hn hx hlm h0 (by omega) rfl hk hw hz ha
        · exact readPk_pcut R cls tag _ hkp hgood hts W l m k nn depth hQ hB hh hn hx hlm h0 (by omega) hk (by omega)
      · exact readPk_fail R cls tag false _ _ hkp hgood hts W l m k nn depth hQ hB hh hn hx hlm h0 (by omega) hk
    | @cons _ cls tag nn k ks hh hn hpl =>
      rw [dpx] at hd
      by_cases hk : k ≤ l.length
      · exact readPk_cons d ih R cls tag ks hkp hgood hts W l m k nn depth hQ hB hh hn hx hlm h0 (by omega) (by omega) (by omega) hpl hk
      · exact readPk_fail R cls tag true _ _ hkp hgood hts W l m k nn depth hQ hB hh hn hx hlm h0 (by omega) hk
end
end Go.Proofs.YteockihoefbmdaaGreatDoor.Ber
namespace Go.Proofs.YteockihoefbmdaaGreatDoor.Ber
open Go.RowKit Go.Proofs.YteockihoefbmdaaGreatDoorW.PrintWords Go.Proofs.YteockihoefbmdaaGreatDoor.Buf Go.Proofs.YteockihoefbmdaaGreatDoor.Pk Go.Proofs.YteockihoefbmdaaGreatDoor.Num Go.Proofs.YteockihoefbmdaaGreatDoor.Ident Go.Proofs.YteockihoefbmdaaGreatDoor.Tree Go.Proofs.YteockihoefbmdaaGreatDoor.PFnEncode
set_option linter.unusedVariables false
set_option linter.unusedSimpArgs false

theorem results_u {P : Program} {fn : Func} {p : Tmp} {ty : TypeId} (h : fn.results = #[.cell p ty]) (tmps : Array Value) (w : World) (g : Nat) (t : TypeId) (cs : Array Value) (fr : Nat × Nat) (d : TypeDesc)
    (hp : tmps.getD p undef = .pointer (some ⟨g, 0, none⟩)) (hg : w.heap[g]? = some (.cells cs t fr))
    (hu : P.underlying ty = some d) (hd : (match d with | .struct _ | .array _ _ => true | _ => false) = true) (hi : (P.info? ty).map (·.size) = some cs.size) :
    (results fn tmps).run P w = .ok (.agg cs) w := by
  have hp' : tmps[p]?.getD undef = .pointer (some ⟨g, 0, none⟩) := by simpa using hp
  simp [results, h, hp', asAddr, run_loadVar_row w g t ty cs fr d hg hu hd hi]
theorem info_ip : (Tryz.prog.info? 30).map (fun i => (i.zero, i.size, i.bytes)) = some (some (.agg #[.int .i64 0, .int .i64 0, .bool false, .slice none 0 0, .slice none 0 0]), 5, 72) := by kernel_rfl
theorem size_ip : (Tryz.prog.info? 30).map (·.size) = some 5 := by kernel_rfl

end Go.Proofs.YteockihoefbmdaaGreatDoor.Ber

namespace Go.Proofs.YteockihoefbmdaaGreatDoor.Ber
open Go.RowKit Go.Proofs.YteockihoefbmdaaGreatDoorW.PrintWords Go.Proofs.YteockihoefbmdaaGreatDoor.Buf Go.Proofs.YteockihoefbmdaaGreatDoor.Pk Go.Proofs.YteockihoefbmdaaGreatDoor.Num Go.Proofs.YteockihoefbmdaaGreatDoor.Ident Go.Proofs.YteockihoefbmdaaGreatDoor.Tree Go.Proofs.YteockihoefbmdaaGreatDoor.PFnEncode
set_option linter.unusedVariables false
set_option linter.unusedSimpArgs false

section
end

end Go.Proofs.YteockihoefbmdaaGreatDoor.Ber
namespace Go.Proofs.YteockihoefbmdaaGreatDoor.Ber
open Go.RowKit Go.Proofs.YteockihoefbmdaaGreatDoorW.PrintWords Go.Proofs.YteockihoefbmdaaGreatDoorW.PrintLast Go.Proofs.YteockihoefbmdaaGreatDoor.Buf Go.Proofs.YteockihoefbmdaaGreatDoor.Pk Go.Proofs.YteockihoefbmdaaGreatDoor.Tree Go.Proofs.YteockihoefbmdaaGreatDoor.Num Go.Proofs.YteockihoefbmdaaGreatDoor.Ident Go.Proofs.YteockihoefbmdaaGreatDoor.PFnEncode
set_option linter.unusedVariables false
set_option linter.unusedSimpArgs false

/-- what io.EOF and io.ErrUnexpectedEOF point to -/
structure EofAt (W : World) (va ua : Addr) : Prop where
  e1 : W.cell? ⟨0, 0, none⟩ = some (.iface 248 (.pointer (some va)))
  e2 : W.cell? ⟨1, 0, none⟩ = some (.iface 248 (.pointer (some ua)))
  b1 : ∃ ca ta, W.heap[va.block]? = some (.cells ca ta (0, 0))
  b2 : ∃ ca ta, W.heap[ua.block]? = some (.cells ca ta (0, 0))
/-- they lie below -/
def EofLt (va ua : Addr) (n : Nat) : Prop := 0 < n ∧ 1 < n ∧ va.block < n ∧ ua.block < n
theorem EofAt.lt {W : World} {va ua : Addr} (h : EofAt W va ua) : EofLt va ua W.heap.size := by
  obtain ⟨h1, h2, ⟨ca, ta, h3⟩, ⟨cb, tb, h4⟩⟩ := h
  exact ⟨World.block_lt_of_cell? W _ h1, World.block_lt_of_cell? W _ h2, blk_lt h3, blk_lt h4⟩
theorem EofAt.keep {W W' : World} {va ua : Addr} (h : EofAt W va ua) {S : Nat → Prop} {n : Nat} (hlt : EofLt va ua n) (hb : ∀ b, b < n → W'.heap[b]? = W.heap[b]?) : EofAt W' va ua := by
  obtain ⟨h1, h2, ⟨ca, ta, h3⟩, ⟨cb, tb, h4⟩⟩ := h
  exact ⟨(World.cell?_of_block (a := ⟨0, 0, none⟩) (hb _ hlt.1)).trans h1, (World.cell?_of_block (a := ⟨1, 0, none⟩) (hb _ hlt.2.1)).trans h2, ⟨ca, ta, (hb _ hlt.2.2.1).trans h3⟩, ⟨cb, tb, (hb _ hlt.2.2.2).trans h4⟩⟩
section
end
end Go.Proofs.YteockihoefbmdaaGreatDoor.Ber
