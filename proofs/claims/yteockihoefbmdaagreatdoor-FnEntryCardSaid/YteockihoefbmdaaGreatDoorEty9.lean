/- Parts of the proof of one law, in the order in which they build. What is read, as a packet in memory; a child is appended; a packet is laid. · io.LimitReader, ber.DecodeString, ber.isEOCPacket. · ber.readPacket: the packet at the beginning of bytes; or the error where they end too early. -/
import Derived.Test.YteockihoefbmdaaGreatDoorEty1
import Derived.Test.YteockihoefbmdaaGreatDoorEty2
import Derived.Test.YteockihoefbmdaaGreatDoorEty3
import Derived.Test.YteockihoefbmdaaGreatDoorEty4
import Derived.Test.YteockihoefbmdaaGreatDoorEty5
import Derived.Test.YteockihoefbmdaaGreatDoorEty6
import Derived.Test.YteockihoefbmdaaGreatDoorEty7
import Derived.Test.YteockihoefbmdaaGreatDoorEty8
namespace Go.Proofs.YteockihoefbmdaaGreatDoor.Ber
open Go.RowKit Go.Proofs.YteockihoefbmdaaGreatDoorW.PrintWords Go.Proofs.YteockihoefbmdaaGreatDoorW.PrintLast Go.Proofs.YteockihoefbmdaaGreatDoor.Buf Go.Proofs.YteockihoefbmdaaGreatDoor.Pk Go.Proofs.YteockihoefbmdaaGreatDoor.Tree Go.Proofs.YteockihoefbmdaaGreatDoor.Num Go.Proofs.YteockihoefbmdaaGreatDoor.Ident Go.Proofs.YteockihoefbmdaaGreatDoor.PFnEncode
set_option linter.unusedVariables false
set_option linter.unusedSimpArgs false

/-- the value that a universal packet gets -/
def valOf (tag : Int) (d : List Int) : Value :=
  if tag = 1 then .iface 4 (.bool (sv d != 0)) else if tag = 2 ∨ tag = 10 then .iface 2 (.int .i64 (sv d)) else if tag = 4 then strV (strOfNums d) else .nilIface
mutual
/-- what is read -/
def rdPk : S34 → Pk
  | ⟨a, b, c, d, l⟩ => ⟨a * 64, (if c = true then 32 else 0), b, if c = true ∨ a ≠ 0 then .nilIface else valOf b d, if c = true ∨ a ≠ 0 then [] else d, if c = true then bytesL l else d, if c = true then rdL l else [], ⟨#[]⟩⟩
def rdL : List S34 → List Pk
  | [] => []
  | x :: xs => rdPk x :: rdL xs
end
mutual
/-- how deep -/
def dpx : S34 → Nat
  | ⟨_, _, _, _, l⟩ => dpxL l + 1
def dpxL : List S34 → Nat
  | [] => 0
  | x :: xs => max (dpx x) (dpxL xs)
end
mutual
/-- tags whose values are taken as they are -/
def kp : S34 → Prop
  | ⟨a, b, c, d, l⟩ => (a = 0 → c = false → (b = 1 ∧ d.length = 1) ∨ ((b = 2 ∨ b = 10) ∧ 1 ≤ d.length ∧ d.length ≤ 8) ∨ b = 4 ∨ (b = 5 ∧ d.length = 0)) ∧ (a = 0 → c = true → b = 16 ∨ b = 17) ∧ kpL l
def kpL : List S34 → Prop
  | [] => True
  | x :: xs => kp x ∧ kpL xs
end
theorem rdL_append (l m : List S34) : rdL (l ++ m) = rdL l ++ rdL m := by
  induction l with
  | nil => rw [rdL]; rfl
  | cons x xs ih => rw [List.cons_append, rdL, rdL, ih]; rfl
theorem rdL_length (l : List S34) : (rdL l).length = l.length := by
  induction l with
  | nil => rw [rdL, List.length_nil, List.length_nil]
  | cons x xs ih => rw [rdL, List.length_cons, List.length_cons, ih]
theorem kpL_mem : ∀ {l : List S34} {x : S34}, kpL l → x ∈ l → kp x
  | y :: ys, x, h, hx => by
    rw [kpL] at h
    rcases List.mem_cons.1 hx with rfl | hx
    · exact h.1
    · exact kpL_mem h.2 hx
theorem dpxL_mem : ∀ {l : List S34} {x : S34}, x ∈ l → dpx x ≤ dpxL l
  | y :: ys, x, hx => by
    rw [dpxL]
    rcases List.mem_cons.1 hx with rfl | hx
    · exact Nat.le_max_left _ _
    · exact Nat.le_trans (dpxL_mem hx) (Nat.le_max_right _ _)
/-- a packet that was read: class and tag within bounds; primitive ones without packets, constructed ones without data -/
def topx (x : S34) : Prop := (0 ≤ x.f0 ∧ x.f0 ≤ 3) ∧ (0 ≤ x.f1 ∧ x.f1 < 268435456) ∧ (x.f2 = true → x.f3 = []) ∧ (x.f2 = false → x.f4 = [])
theorem par_topx {l : List Int} {x : S34} {n : Nat} (h : Par l x n) (hx : ∀ y ∈ l, 0 ≤ y ∧ y < 256) : topx x := by
  cases h with
  | prim h hn => have := hdrB_all h hx; exact ⟨⟨this.1, this.2.1⟩, ⟨this.2.2.1, this.2.2.2.1⟩, fun h => absurd h (by simp), fun _ => rfl⟩
  | cons h hn hk => have := hdrB_all h hx; exact ⟨⟨this.1, this.2.1⟩, ⟨this.2.2.1, this.2.2.2.1⟩, fun _ => rfl, fun h => absurd h (by simp)⟩
theorem rd_bytes {x : S34} (h : topx x) : pkBytes x.f0 x.f1 x.f2 (rdPk x).data = bytesT x := by
  obtain ⟨a, b, c, d, l⟩ := x
  obtain ⟨_, _, h1, h2⟩ := h
  rw [rdPk, bytesT]
  cases c with
  | true =>
    have : d = [] := h1 rfl
    subst this
    rfl
  | false =>
    have : l = [] := h2 rfl
    subst this
    rw [bytesL, List.append_nil]
    rfl
theorem rd_add {x : S34} (h : topx x) (p : Pk) : addK p (rdPk x) = { p with data := p.data ++ bytesT x, kids := p.kids ++ [rdPk x] } := by
  have e := rd_bytes h
  obtain ⟨a, b, c, d, l⟩ := x
  rw [← e]
  have e1 : a * 64 / 64 = a := by omega
  rw [rdPk, addK]
  simp only [e1]
  cases c <;> simp
theorem rd_top {x : S34} (h : topx x) {n : Nat} (h1 : (rdPk x).data.length ≤ n) (h2 : (rdPk x).kids.length ≤ n) : Top (rdPk x) n := by
  obtain ⟨a, b, c, d, l⟩ := x
  obtain ⟨h3, h4, _⟩ := h
  simp only at h3 h4
  rw [rdPk] at h1 h2 ⊢
  refine ⟨by simp only; omega, by simp only; omega, by simp only; omega, ?_, h4.1, h4.2, h1, h2⟩
  cases c <;> simp
/-- AppendChild: the child is younger. -/
theorem app_two {W : World} {base S q qc : Nat} {x y : Pk} {n m : Nat} (hx : IsPk W base (fun k => k < S) q x) (hy : IsPk W S (fun _ => True) qc y) (hbS : base ≤ S) (hS : S ≤ W.heap.size) (tx : Top x n) (ty : Top y m) (hn : n < 1000000000000) (hm : m < 1000000000000) :
    Calls Tryz.prog 86 #[.pointer (some ⟨q, 0, none⟩), .pointer (some ⟨qc, 0, none⟩)] W fun e w' => (∃ u, e = .returned u) ∧ IsPk w' base (fun _ => True) q (addK x y) ∧ Below base W w' := by
  obtain ⟨db, v, bv, cv, P⟩ := parts_of hx.bound
  obtain ⟨dq, vq, bq, cq, C⟩ := parts_of (hy.bound.lower (base' := base) hbS)
  have hl := tx.ln
  have hl2 := ty.ln
  have hk := tx.nk
  have h0 := ty.c0
  have h1 := ty.c1
  have h2 := ty.cm
  have e1 : y.cls = y.cls / 64 * 64 := by omega
  have e2 : y.typ = if decide (y.typ = 32) = true then 32 else 0 := by
    rcases ty.ty with h | h <;> simp [h]
  refine (append_any (y.cls / 64) y.tag (decide (y.typ = 32)) (by omega) (by omega) ty.t0 ty.t1 x y e1 e2 rfl (by omega) (by omega) (by omega) W P C ?_ (fun j h1 => h1.2.2) (Nat.le_trans hbS hS) (fun j h1 => h1.2.1)).mono ?_
  · intro j h1 h2
    have h3 := h1.2.1
    have h4 := h2.1
    omega
  · rintro e W7 ⟨hu, hO7, v7, cv7, hP7⟩
    have h7 := (hP7.okmono (ok' := fun _ => True) (fun _ _ => trivial)).pk
    exact ⟨hu, h7, hO7.below (Nat.le_trans hbS hS) (fun i hi => hi.2.1)⟩
/-- Another ByteValue. -/
theorem Parts_setBv {w : World} {base : Nat} {ok : Nat → Prop} {b : Nat} {x : Pk} {db : Nat} {v bv cv : Value} (h : Parts w base ok b x db v bv cv) (u : Value) (ys : List Int) (hr : B8.R 5 w base (fun k => ok k ∧ some k ≠ v.ownBlock) u ys) :
    Parts (w.setCell ⟨b, 4, none⟩ u) base ok b { x with bv := ys } db v u cv ∧ Only ok w (w.setCell ⟨b, 4, none⟩ u) := by
  have hk : ∀ k, k ≠ b → (w.setCell ⟨b, 4, none⟩ u).heap[k]? = w.heap[k]? := fun k hk => Below.heap_setCell w ⟨b, 4, none⟩ u k hk
  have hrow : ∀ {k : Nat} {cs : Array Value}, w.heap[k]? = some (.cells cs 5 (0, 0)) → k ≠ b := by
    rintro k cs hc rfl
    have := h.hb
    rw [hc] at this
    injection this with this
    injection this with _ this
    exact absurd this (by decide)
  refine ⟨⟨h.val, h.okb, h.leb, h.okd, h.led, Lib.heap_setCell_same (i := 4) h.hb u, ?_, ?_, ?_, ?_⟩, (Only.refl ok w).setCell (a := ⟨b, 4, none⟩) (fun _ => h.okb) u⟩
  · obtain ⟨lr, h4⟩ := h.hd
    exact ⟨lr, (hk db (Ne.symm h.dne)).trans h4⟩
  · refine Kd.R_mono (Kd.R_move (Kd.R_bound h.rv) ?_) (fun k hk => hk.1)
    rintro k ⟨k1, k2, k3, q, hq, cells, hc⟩
    refine hk k (hrow (cs := cells) ?_)
    rcases List.mem_cons.1 hq with rfl | hq
    · exact hc
    · exact absurd hq (by simp [Kd.int, Kd.scalar])
  · refine Kd.R_mono (Kd.R_move (Kd.R_bound hr) ?_) (fun k hk => hk.1)
    rintro k ⟨k1, k2, k3, q, hq, cells, hc⟩
    refine hk k (hrow (cs := cells) ?_)
    rcases List.mem_cons.1 hq with rfl | hq
    · exact hc
    · exact absurd hq (by simp [Kd.int, Kd.scalar])
  · exact Kd.R_move h.rk (fun k hk' => hk k hk'.2.1)
theorem kp_noEOC {x : S34} (h : kp x) : (rdPk x).tag ≠ 0 ∨ (rdPk x).cls ≠ 0 ∨ (rdPk x).typ ≠ 0 := by
  obtain ⟨a, b, c, d, l⟩ := x
  rw [kp] at h
  rw [rdPk]
  by_cases ha : a = 0
  · cases c with
    | true => exact .inr (.inr (by simp))
    | false =>
      refine .inl ?_
      have := h.1 ha rfl
      simp only
      omega
  · exact .inr (.inl (by simp only; omega))
theorem rd_small {x : S34} (hg : good x = true) (ht : tsize x ≤ 1000000) : (rdPk x).data.length ≤ 20000000 ∧ (rdPk x).kids.length ≤ 20000000 := by
  have h1 := bytesT_le x hg (by omega)
  obtain ⟨a, b, c, d, l⟩ := x
  have h2 := len_le_tsB l
  rw [tsize] at ht h1
  rw [bytesT] at h1
  simp only [List.length_append] at h1
  rw [rdPk]
  cases c with
  | true => exact ⟨by simp only [if_true]; omega, by simp only [if_true, rdL_length]; omega⟩
  | false => exact ⟨by simp only [Bool.false_eq_true, if_false]; omega, by simp⟩
theorem good_kid {a b : Int} {c : Bool} {d : List Int} {l : List S34} (hg : good ⟨a, b, c, d, l⟩ = true) {x : S34} (hx : x ∈ l) : good x = true := by
  rw [good] at hg
  simp only [Bool.and_eq_true] at hg
  have := hg.2
  rw [goodL_all, List.all_eq_true] at this
  exact this x hx
theorem tsizeL_mem : ∀ {l : List S34} {x : S34}, x ∈ l → tsize x ≤ tsizeL l
  | y :: ys, x, hx => by
    rw [tsizeL]
    rcases List.mem_cons.1 hx with rfl | hx
    · exact Nat.le_add_right _ _
    · exact Nat.le_trans (tsizeL_mem hx) (Nat.le_add_left _ _)
/-- the kids so far -/
def sofar (a b : Int) (l : List S34) : Pk := ⟨a, 32, b, .nilIface, [], bytesL l, rdL l, ⟨#[]⟩⟩
theorem sofar_add (a b : Int) (l : List S34) {x : S34} (h : topx x) : addK (sofar a b l) (rdPk x) = sofar a b (l ++ [x]) := by
  rw [rd_add h, sofar, sofar, bytesL_append, rdL_append, bytesL, bytesL, rdL, rdL, List.append_nil]
theorem mk_none0 : ∀ w : World, (Instr.makeSlice 22 (.int .i64 0) (.int .i64 0)).run Tryz.prog w = .ok (.slice (some ⟨w.heap.size, 0, none⟩) 0 0) (w.alloc (.cells #[] 5)) := fun _ => by kernel_rfl
theorem mk_kids2 : ∀ w : World, (Instr.makeSlice 84 (.int .i64 0) (.int .i64 2)).run Tryz.prog w = .ok (.slice (some ⟨w.heap.size, 0, none⟩) 0 2) (w.alloc (.cells #[.pointer none, .pointer none] 72)) := fun _ => by kernel_rfl
/-- three blocks are a packet without data -/
theorem bare_pk {W : World} {base b0 b1 b2 : Nat} (cls typ tag : Int) (hb0 : base ≤ b0) (hb1 : base ≤ b1) (hb2 : base ≤ b2) (h02 : b2 ≠ b0) (h12 : b2 ≠ b1) (h0 : W.heap[b0]? = some (.cells #[.int .u8 cls, .int .u8 typ, .int .u64 tag, .nilIface, .slice none 0 0, .pointer (some ⟨b1, 0, none⟩), .slice (some ⟨b2, 0, none⟩) 0 2, .string ⟨#[]⟩] T (0, 0)))
    (h1 : W.heap[b1]? = some (.cells #[.slice none 0 0, .int .i64 0, .int .i8 0] TB (0, 0))) (h2 : W.heap[b2]? = some (.cells #[.pointer none, .pointer none] TP (0, 0))) :
    IsPk W base (fun _ => True) b0 (bare cls typ tag .nilIface ⟨#[]⟩) := by
  refine mk_M ⟨rfl, b0, b1, .slice none 0 0, .slice none 0 0, .slice (some ⟨b2, 0, none⟩) 0 2, 0, rfl, ⟨trivial, hb0⟩, ⟨trivial, hb1⟩, h0, h1, Kd.R_nil _ _ _ _ _, Kd.R_nil _ _ _ _ _, ?_, [], ?_, Reps.none _ _⟩
  · intro k hk
    simp [Value.ownBlock] at hk
    subst hk
    exact ⟨trivial, h02, h12, by simp [Value.ownBlock]⟩
  · exact ⟨rfl, .inr ⟨b2, 2, _, rfl, hb2, h2, by simp [bare], by unfold maxLen; omega, rfl, rfl⟩⟩
end Go.Proofs.YteockihoefbmdaaGreatDoor.Ber
namespace Go.Proofs.YteockihoefbmdaaGreatDoor.Ber
open Go.RowKit Go.Proofs.YteockihoefbmdaaGreatDoorW.PrintWords Go.Proofs.YteockihoefbmdaaGreatDoorW.PrintLast Go.Proofs.YteockihoefbmdaaGreatDoor.Buf Go.Proofs.YteockihoefbmdaaGreatDoor.Pk Go.Proofs.YteockihoefbmdaaGreatDoor.Tree Go.Proofs.YteockihoefbmdaaGreatDoor.Num Go.Proofs.YteockihoefbmdaaGreatDoor.Ident Go.Proofs.YteockihoefbmdaaGreatDoor.PFnEncode
set_option linter.unusedVariables false
set_option linter.unusedSimpArgs false

set_option maxHeartbeats 6400000 in
set_option maxRecDepth 100000 in
theorem limReader_any (n : Int) (T : Nat) (r : Value) (w : World) : Calls Tryz.prog 126 #[.iface T r, .int .i64 n] w fun e w' => e = .returned (.iface 283 (.pointer (some ⟨w.heap.size, 0, none⟩))) ∧ w' = w.alloc (.cells #[.iface T r, .int .i64 n] 285) := by
  go_enter Tryz.func126, Tryz.ntmps126
  go_wp2
  go_ret
  exact ⟨rfl, rfl⟩
set_option maxHeartbeats 6400000 in
set_option maxRecDepth 100000 in
theorem decStr_any (xs : List Int) (A : Option Addr) (c : Nat) (w : World) (hr : B8.C w A xs.length xs) : Calls Tryz.prog 90 #[.slice A xs.length c] w fun e w' => e = .returned (.string (strOfNums xs)) ∧ w' = w := by
  have hcv : (convert 22 9 (.slice A xs.length c)).run Tryz.prog w = .ok (.string (strOfNums xs)) w := Kd.C_string Tryz.underlying22 Tryz.underlying5 Tryz.underlying9 hr
  clear hr
  go_enter Tryz.func90, Tryz.ntmps90
  go_wp2
  go_ret
  exact ⟨rfl, rfl⟩
set_option maxHeartbeats 6400000 in
set_option maxRecDepth 100000 in
theorem isEOC_any {base : Nat} {ok : Nat → Prop} {b db : Nat} {v bv cv : Value} (x : Pk) (w : World) (P : Parts w base ok b x db v bv cv) (h : x.tag ≠ 0 ∨ x.cls ≠ 0 ∨ x.typ ≠ 0) :
    Calls Tryz.prog 124 #[.pointer (some ⟨b, 0, none⟩)] w fun e w' => e = .returned (.bool false) ∧ w' = w := by
  have c0 : w.cell? ⟨b, 0, none⟩ = some (.int .u8 x.cls) := P.cell 0
  have c1 : w.cell? ⟨b, 1, none⟩ = some (.int .u8 x.typ) := P.cell 1
  have c2 : w.cell? ⟨b, 2, none⟩ = some (.int .u64 x.tag) := P.cell 2
  clear P
  by_cases h0 : x.tag = 0
  · have e0 : (x.tag == 0) = true := by simp [h0]
    by_cases h1 : x.cls = 0
    · have e1 : (x.cls == 0) = true := by simp [h1]
      have e2 : (x.typ == 0) = false := by
        have : x.typ ≠ 0 := by rcases h with h | h | h; exact absurd h0 h; exact absurd h1 h; exact h
        simpa using this
      clear h h0 h1
      go_enter Tryz.func124, Tryz.ntmps124
      go_wp2
      go_ret
      exact ⟨rfl, rfl⟩
    · have e1 : (x.cls == 0) = false := by simpa using h1
      clear h h0 h1
      go_enter Tryz.func124, Tryz.ntmps124
      go_wp2
      go_ret
      exact ⟨rfl, rfl⟩
  · have e0 : (x.tag == 0) = false := by simpa using h0
    clear h h0
    go_enter Tryz.func124, Tryz.ntmps124
    go_wp2
    go_ret
    exact ⟨rfl, rfl⟩
end Go.Proofs.YteockihoefbmdaaGreatDoor.Ber
namespace Go.Proofs.YteockihoefbmdaaGreatDoor.Ber
open Go.RowKit Go.Proofs.YteockihoefbmdaaGreatDoorW.PrintWords Go.Proofs.YteockihoefbmdaaGreatDoorW.PrintLast Go.Proofs.YteockihoefbmdaaGreatDoor.Buf Go.Proofs.YteockihoefbmdaaGreatDoor.Pk Go.Proofs.YteockihoefbmdaaGreatDoor.Tree Go.Proofs.YteockihoefbmdaaGreatDoor.Num Go.Proofs.YteockihoefbmdaaGreatDoor.Ident Go.Proofs.YteockihoefbmdaaGreatDoor.PFnEncode
set_option linter.unusedVariables false
set_option linter.unusedSimpArgs false

section
variable {T F : Nat} {r : Value} {g B : Nat} {va ua : Addr} {Q : World → List Int → Prop}
/-- what readPacket leaves -/
def Rdd (g : Nat) (va ua : Addr) (Q : World → List Int → Prop) (W : World) (l : List Int) (n : Nat) (x : S34) (e : Ending) (w' : World) : Prop :=
  (n ≤ l.length → ∃ b, e = .returned (.tuple #[.pointer (some ⟨b, 0, none⟩), .int .i64 n, .nilIface]) ∧ IsPk w' W.heap.size (fun _ => True) b (rdPk x) ∧ Q w' (l.drop n)) ∧
  (l.length < n → (∃ q v, e = .returned (.tuple #[.pointer none, .int .i64 q, (.iface 248 (.pointer (some v)))]) ∧ (v = va ∨ v = ua)) ∧ Q w' []) ∧ Only (fun i => i = g) W w'
theorem laid_pk (W1 : World) (cl ty b : Int) {W2 : World} (hW2 : W2 = (((W1.alloc (.cells #[.int .u8 cl, .int .u8 ty, .int .u64 b] 82)).alloc (.cells #[.int .u8 cl, .int .u8 ty, .int .u64 b, .nilIface, .slice none 0 0, .pointer (some ⟨W1.heap.size + 1 + 1, 0, none⟩), .slice (some ⟨W1.heap.size + 1 + 1 + 1, 0, none⟩) 0 2, .string ⟨#[]⟩] 86)).alloc
        (.cells #[.slice none 0 0, .int .i64 0, .int .i8 0] 134)).alloc (.cells #[.pointer none, .pointer none] 72)) :
    Below W1.heap.size W1 W2 ∧ IsPk W2 W1.heap.size (fun _ => True) (W1.heap.size + 1) (bare cl ty b .nilIface ⟨#[]⟩) := by
  obtain ⟨A, hA⟩ : ∃ A : World, A = W1.alloc (.cells #[.int .u8 cl, .int .u8 ty, .int .u64 b] 82) := ⟨_, rfl⟩
  have hs : A.heap.size = W1.heap.size + 1 := by rw [hA]; simp
  rw [← hA, ← hs] at hW2
  rw [← hs]
  obtain ⟨C1, hC1⟩ : ∃ C1 : World, C1 = A.alloc (.cells #[.int .u8 cl, .int .u8 ty, .int .u64 b, .nilIface, .slice none 0 0, .pointer (some ⟨A.heap.size + 1, 0, none⟩), .slice (some ⟨A.heap.size + 1 + 1, 0, none⟩) 0 2, .string ⟨#[]⟩] 86) := ⟨_, rfl⟩
  have g1 : C1.heap[A.heap.size]? = some (.cells #[.int .u8 cl, .int .u8 ty, .int .u64 b, .nilIface, .slice none 0 0, .pointer (some ⟨A.heap.size + 1, 0, none⟩), .slice (some ⟨A.heap.size + 1 + 1, 0, none⟩) 0 2, .string ⟨#[]⟩] 86 (0, 0)) := by rw [hC1]; exact blk_new _ _
  have hs1 : C1.heap.size = A.heap.size + 1 := by rw [hC1]; simp
  rw [← hC1] at hW2
  obtain ⟨C2, hC2⟩ : ∃ C2 : World, C2 = C1.alloc (.cells #[.slice none 0 0, .int .i64 0, .int .i8 0] 134) := ⟨_, rfl⟩
  have g2 : C2.heap[A.heap.size + 1]? = some (.cells #[.slice none 0 0, .int .i64 0, .int .i8 0] 134 (0, 0)) := by rw [← hs1, hC2]; exact blk_new _ _
  have hs2 : C2.heap.size = A.heap.size + 1 + 1 := by rw [hC2]; simp [hs1]
  rw [← hC2] at hW2
  have g3 : W2.heap[A.heap.size + 1 + 1]? = some (.cells #[.pointer none, .pointer none] 72 (0, 0)) := by rw [← hs2, hW2]; exact blk_new _ _
  have bl1 : Below A.heap.size A C1 := by rw [hC1]; exact below_alloc (Below.refl _ _) _
  have bl2 : Below C1.heap.size C1 C2 := by rw [hC2]; exact below_alloc (Below.refl _ _) _
  have bl3 : Below C2.heap.size C2 W2 := by rw [hW2]; exact below_alloc (Below.refl _ _) _
  have bl0 : Below W1.heap.size W1 A := by rw [hA]; exact below_alloc (Below.refl _ _) _
  refine ⟨((bl0.trans (bl1.mono (by omega))).trans (bl2.mono (by omega))).trans (bl3.mono (by omega)), ?_⟩
  exact bare_pk cl ty b (by omega) (by omega) (by omega) (by omega) (by omega) (blk_below (blk_below g1 bl2) bl3) (blk_below g2 bl3) g3
set_option maxHeartbeats 6400000 in
set_option maxRecDepth 100000 in
theorem readPk_fail (R : RdSpec T F r g B va ua Q) (a b : Int) (c : Bool) (dd : List Int) (ks : List S34) (hkp : kp ⟨a, b, c, dd, ks⟩) (hgood : good ⟨a, b, c, dd, ks⟩ = true) (hts : tsize ⟨a, b, c, dd, ks⟩ ≤ 1000000) (W : World) (l m : List Int) (k nn : Nat) (depth : Int) (hQ : Q W l) (hB : B ≤ W.heap.size) (hh : hdrB (l ++ m) = some (a, c, b, (nn : Int), k)) (hkn : k + nn ≤ (l ++ m).length) (hx : ∀ y ∈ l ++ m, 0 ≤ y ∧ y < 256) (hlm : (l ++ m).length ≤ 1000000) (h0 : 0 ≤ depth) (h1000 : depth < 1000) (hk : ¬ k ≤ l.length) :
    Calls Tryz.prog 104 #[.iface T r, .int .i64 depth] W (Rdd g va ua Q W l (k + nn) ⟨a, b, c, dd, ks⟩) := by
    have hall := hdrB_all hh hx
    simp only at hall
    have HH := header_any R W l m a b (nn : Int) c k hQ hB hh hx
    obtain ⟨n2, hn2⟩ : ∃ n2 : Int, n2 = (nn : Int) := ⟨_, rfl⟩
    obtain ⟨k2, hk2⟩ : ∃ k2 : Int, k2 = (k : Int) := ⟨_, rfl⟩
    rw [← hn2, ← hk2] at HH
    have hkl := (hdrB_app [] hh).2.2
    simp only at hkl
    have hn0 : 0 ≤ n2 := by omega
    have hn1 : n2 ≤ 1000000 := by omega
    have hk0 : 0 ≤ k2 := by omega
    have hk1 : k2 ≤ 1000000 := by omega
    have hde : decide (depth ≥ 1000) = false := decide_eq_false (by omega)
    have hde2 : decide (1000 ≤ depth) = false := decide_eq_false (by omega)
    have hne : (n2 != -1) = true := by simp; omega
    have hnq : (n2 == -1) = false := by simp; omega
    have hnm2 : decide (2147483647 < n2) = false := decide_eq_false (by omega)
    have hde9 : depth ≤ 1000 := by omega
    obtain ⟨ty, hty⟩ : ∃ ty : Int, ty = if c = true then 32 else 0 := ⟨_, rfl⟩
    obtain ⟨cl, hcl⟩ : ∃ cl : Int, cl = a * 64 := ⟨_, rfl⟩
    rw [← hty, ← hcl] at HH
    have HHX : Hid (Calls Tryz.prog 122 #[.iface T r] W fun e w' => ∃ q v, e = .returned (.tuple #[.agg #[.int .u8 0, .int .u8 0, .int .u64 0], .int .i64 0, .int .i64 q, (.iface 248 (.pointer (some v)))]) ∧ (v = va ∨ v = ua) ∧ Q w' [] ∧ Only (fun i => i = g) W w') := Lib.hid (by
      refine HH.mono ?_
      rintro e w' ⟨_, h1, ho⟩
      obtain ⟨⟨q, v, he, hv⟩, hq⟩ := h1 (by omega)
      exact ⟨q, v, he, hv, hq, ho⟩)
    have HKL := Lib.hid hk
    have HR := Lib.hid R
    have HB := Lib.hid hB
    clear HH hh R hx hkp hQ hall hn2 hk2 hty hcl hk hB hgood hts hlm hkl
    go_enter Tryz.func104, Tryz.ntmps104
    go_wp2_with (go_at_call 122
                 with_reducible refine HHX.out.mono ?_
                 rintro e W1 ⟨q, v, rfl, hv, hQ1, hO1⟩
                 have HQ1 := Lib.hid hQ1
                 have HO1 := Lib.hid hO1
                 have HV := Lib.hid hv
                 clear hQ1 hO1 hv)
    go_ret3
    exact ⟨fun h => absurd h (by have := HKL.out; omega), fun _ => ⟨⟨_, v, rfl, HV.out⟩, HR.out.keep W1 _ _ HQ1.out (fun i hi => Below.heap_alloc W1 _ i (by have h1 := HO1.out.size; have h2 := HB.out; omega))⟩, HO1.out.alloc _⟩
set_option maxHeartbeats 6400000 in
set_option maxRecDepth 100000 in
theorem readPk_cons (d : Nat) (ih : ∀ (x : S34), dpx x ≤ d → kp x → good x = true → tsize x ≤ 1000000 → ∀ (W : World) (l m : List Int) (n : Nat) (depth : Int), Q W l → B ≤ W.heap.size → Par (l ++ m) x n → (∀ y ∈ l ++ m, 0 ≤ y ∧ y < 256) → (l ++ m).length ≤ 1000000 → 0 ≤ depth → depth + d ≤ 1000 →
      Calls Tryz.prog 104 #[.iface T r, .int .i64 depth] W (Rdd g va ua Q W l n x)) (R : RdSpec T F r g B va ua Q) (a b : Int)  (ks : List S34) (hkp : kp ⟨a, b, true, [], ks⟩) (hgood : good ⟨a, b, true, [], ks⟩ = true) (hts : tsize ⟨a, b, true, [], ks⟩ ≤ 1000000) (W : World) (l m : List Int) (k nn : Nat) (depth : Int) (hQ : Q W l) (hB : B ≤ W.heap.size) (hh : hdrB (l ++ m) = some (a, true, b, (nn : Int), k)) (hkn : k + nn ≤ (l ++ m).length) (hx : ∀ y ∈ l ++ m, 0 ≤ y ∧ y < 256) (hlm : (l ++ m).length ≤ 1000000) (h0 : 0 ≤ depth) (h1000 : depth < 1000) (hdp : dpxL ks ≤ d) (hdd : depth + 1 + d ≤ 1000) (hpl : ParL (((l ++ m).drop k).take nn) ks) (hk : k ≤ l.length) :
    Calls Tryz.prog 104 #[.iface T r, .int .i64 depth] W (Rdd g va ua Q W l (k + nn) ⟨a, b, true, [], ks⟩) := by
    have hall := hdrB_all hh hx
    simp only at hall
    have HH := header_any R W l m a b (nn : Int) true k hQ hB hh hx
    obtain ⟨n2, hn2⟩ : ∃ n2 : Int, n2 = (nn : Int) := ⟨_, rfl⟩
    obtain ⟨k2, hk2⟩ : ∃ k2 : Int, k2 = (k : Int) := ⟨_, rfl⟩
    rw [← hn2, ← hk2] at HH
    have hkl := (hdrB_app [] hh).2.2
    simp only at hkl
    have hn0 : 0 ≤ n2 := by omega
    have hn1 : n2 ≤ 1000000 := by omega
    have hk0 : 0 ≤ k2 := by omega
    have hk1 : k2 ≤ 1000000 := by omega
    have hde : decide (depth ≥ 1000) = false := decide_eq_false (by omega)
    have hde2 : decide (1000 ≤ depth) = false := decide_eq_false (by omega)
    have hne : (n2 != -1) = true := by simp; omega
    have hnq : (n2 == -1) = false := by simp; omega
    have hnm2 : decide (2147483647 < n2) = false := decide_eq_false (by omega)
    have hde9 : depth ≤ 1000 := by omega
    obtain ⟨ty, hty⟩ : ∃ ty : Int, ty = 32 := ⟨_, rfl⟩
    obtain ⟨cl, hcl⟩ : ∃ cl : Int, cl = a * 64 := ⟨_, rfl⟩
    rw [if_pos rfl, ← hty, ← hcl] at HH
    have HHX : Hid (Calls Tryz.prog 122 #[.iface T r] W fun e w' => e = .returned (.tuple #[.agg #[.int .u8 cl, .int .u8 ty, .int .u64 b], .int .i64 n2, .int .i64 k2, .nilIface]) ∧ Q w' (l.drop k) ∧ Only (fun i => i = g) W w') := Lib.hid (by
      refine HH.mono ?_
      rintro e w' ⟨h1, _, ho⟩
      obtain ⟨he, hq⟩ := h1 hk
      exact ⟨he, hq, ho⟩)
    have hmk := mk_kids2
    have HR := Lib.hid R
    have HXX := Lib.hid hx
    have HHH := Lib.hid hh
    have HALL := Lib.hid hall
    have HN2 := Lib.hid hn2
    have HK2 := Lib.hid hk2
    have HTY := Lib.hid hty
    have HCL := Lib.hid hcl
    have HKL := Lib.hid hk
    have HB := Lib.hid hB
    have HGD := Lib.hid hgood
    have HTS := Lib.hid hts
    have HLM := Lib.hid hlm
    have HKP := Lib.hid hkp
    have HIH := Lib.hid ih
    have HPL := Lib.hid hpl
    have HDP := Lib.hid (And.intro hdp hdd)
    have HKN := Lib.hid hkn
    clear ih hpl hdp hdd hkn
    clear HH hh R hx hkp hQ hall hn2 hk2 hty hcl hk hB hgood hts hlm hkl
    go_enter Tryz.func104, Tryz.ntmps104
    go_upto_region 12 with (go_at_call 122
                            with_reducible refine HHX.out.mono ?_
                            rintro e W1 ⟨rfl, hQ1, hO1⟩
                            have HQ1 := Lib.hid hQ1
                            have HO1 := Lib.hid hO1
                            clear hQ1 hO1)
    obtain ⟨W2, hW2⟩ : ∃ W2, W2 = (((W1.alloc (.cells #[.int .u8 cl, .int .u8 ty, .int .u64 b] 82)).alloc (.cells #[.int .u8 cl, .int .u8 ty, .int .u64 b, .nilIface, .slice none 0 0, .pointer (some ⟨W1.heap.size + 1 + 1, 0, none⟩), .slice (some ⟨W1.heap.size + 1 + 1 + 1, 0, none⟩) 0 2, .string ⟨#[]⟩] 86)).alloc
        (.cells #[.slice none 0 0, .int .i64 0, .int .i8 0] 134)).alloc (.cells #[.pointer none, .pointer none] 72) := ⟨_, rfl⟩
    obtain ⟨hb12, hI2⟩ := laid_pk W1 cl ty b hW2
    obtain ⟨p, hp⟩ : ∃ p, p = W1.heap.size + 1 := ⟨_, rfl⟩
    rw [← hp] at hI2
    rw [← hW2]
    rw [← hp]
    have hs1 := HO1.out.size
    have HI2 : Hid (IsPk W2 W.heap.size (fun _ => True) p (bare cl ty b .nilIface ⟨#[]⟩)) := Lib.hid (hI2.lower hs1)
    have HO2 : Hid (Only (fun i => i = g) W W2) := Lib.hid (HO1.out.trans (Only.of_below (fun i => i = g) hb12) (fun i _ h => h))
    have HQ2 : Hid (Q W2 (l.drop k)) := Lib.hid (HR.out.keep W1 W2 _ HQ1.out (fun i hi => hb12.block i (Nat.lt_of_lt_of_le hi (Nat.le_trans HB.out hs1))))
    have c1 : W2.cell? ⟨p, 1, none⟩ = some (.int .u8 ty) := by
      obtain ⟨db, v, bv, cv, P⟩ := parts_of HI2.out
      exact P.cell 1
    clear hb12 hI2 hp hW2 HQ1 HO1 hs1
    have e32 : (ty == 32) = true := by rw [HTY.out]; rfl
    have HE : Hid (∀ W' v, v = va ∨ v = ua → Q W' [] → Calls Tryz.prog 123 #[(.iface 248 (.pointer (some v)))] W' fun e w' => e = .returned (.iface 248 (.pointer (some ua))) ∧ w' = W') := Lib.hid (fun W' v hv h => by
      rcases hv with rfl | rfl
      · exact eof_turn _ ua W' (HR.out.eof _ _ h) (HR.out.ueof _ _ h)
      · exact ueof_turn va _ W' (HR.out.eof _ _ h) (HR.out.ueof _ _ h) (HR.out.eofb _ _ h).1 (HR.out.eofb _ _ h).2)
    go_wp2
    go_loopw [9, 12] (fun rd cr wr => ∃ (j : Nat) (c q : Int) (pos : Nat), rd = .int .i64 q ∧ cr = .int .i64 c ∧ q = k2 + c ∧ c = (pos : Int) ∧ j ≤ ks.length ∧ Hid (pos ≤ nn ∧ k + pos ≤ l.length ∧ ParL ((((l ++ m).drop k).take nn).drop pos) (ks.drop j) ∧ Q wr (l.drop (k + pos)) ∧ IsPk wr W.heap.size (fun _ => True) p (sofar cl b (ks.take j)) ∧ Only (fun i => i = g) W wr)) (fun _ cr _ => nn + 1 - (intOf cr).toNat)
    case atStart =>
      refine ⟨0, 0, k2, 0, rfl, rfl, by omega, rfl, Nat.zero_le _, Lib.hid ⟨Nat.zero_le _, HKL.out, HPL.out, HQ2.out, ?_, HO2.out⟩⟩
      have h := HI2.out
      rw [HTY.out] at h
      exact h
    case round =>
      obtain ⟨j, c, q, pos, rfl, rfl, hq, hc, hj, HP⟩ := hrel
      obtain ⟨hpn, hkp, hpar, hqq, hpk, hon⟩ := HP.out
      have HQQ := Lib.hid hq
      have HCC := Lib.hid hc
      have hlr : ((((l ++ m).drop k).take nn).drop pos).length = nn - pos := by
        have := HKN.out
        rw [List.length_drop, List.length_take, List.length_drop]
        omega
      have hc0 : 0 ≤ c := by omega
      have hc1 : c ≤ 1000000 := by have := HN2.out; omega
      have hq0 : 0 ≤ q := by omega
      have hq1 : q ≤ 2000000 := by omega
      clear HI2 HQ2 HO2 c1 HHX hq
      by_cases hj2 : j < ks.length
      · rw [List.drop_eq_getElem_cons hj2] at hpar
        obtain ⟨n1, hP1, hPs⟩ := hpar.inv
        obtain ⟨y, hy⟩ : ∃ y, y = ks[j] := ⟨_, rfl⟩
        rw [← hy] at hP1
        have hn1l := hP1.len
        rw [hlr] at hn1l
        have hd1 : (c == n2) = false := by have := HN2.out; simp; omega
        have hd2 : decide (n2 < c) = false := decide_eq_false (by have := HN2.out; omega)
        have hPc : Par (l.drop (k + pos) ++ m) y n1 := by
          have h1 := hP1.app (((l ++ m).drop (k + pos)).drop (nn - pos))
          rw [List.drop_take, List.drop_drop, List.take_append_drop, List.drop_append_of_le_length hkp] at h1
          exact h1
        have hbs : ∀ y ∈ l.drop (k + pos) ++ m, 0 ≤ y ∧ y < 256 := fun z hz => HXX.out z (by
          rcases List.mem_append.1 hz with h | h
          · exact List.mem_append_left _ (List.mem_of_mem_drop h)
          · exact List.mem_append_right _ h)
        have hmem : y ∈ ks := by rw [hy]; exact List.getElem_mem hj2
        have htx := par_topx hPc hbs
        have hkj : kp y := kpL_mem (by have h := HKP.out; rw [kp] at h; exact h.2.2) hmem
        have hgj := good_kid HGD.out hmem
        have htj : tsize y ≤ 1000000 := Nat.le_trans (tsizeL_mem hmem) (by have h := HTS.out; rw [tsize] at h; omega)
        have HCH := HIH.out y (Nat.le_trans (dpxL_mem hmem) HDP.out.1) hkj hgj htj wr (l.drop (k + pos)) m n1 (depth + 1) hqq (Nat.le_trans HB.out hon.size) hPc hbs (by have := HLM.out; rw [List.length_append] at this ⊢; rw [List.length_drop]; omega) (by omega) HDP.out.2
        obtain ⟨t, ht⟩ : ∃ t : Int, t = (n1 : Int) := ⟨_, rfl⟩
        have ht0 : 0 ≤ t := by omega
        have ht1 : t ≤ 1000000 := by have := HN2.out; omega
        have hd3 : decide (2147483647 < c + t) = false := decide_eq_false (by omega)
        have HTT := Lib.hid ht
        have HWR : Hid (wr.heap.size ≤ wr.heap.size ∧ W.heap.size ≤ wr.heap.size) := Lib.hid ⟨Nat.le_refl _, hon.size⟩
        have HGB : Hid (g < W.heap.size) := Lib.hid (Nat.lt_of_lt_of_le HR.out.lt HB.out)
        by_cases hw : n1 ≤ (l.drop (k + pos)).length
        · have hw2 : k + (pos + n1) ≤ l.length := by rw [List.length_drop] at hw; omega
          have HX : Hid (Calls Tryz.prog 104 #[.iface T r, .int .i64 (depth + 1)] wr fun e w' => ∃ bc, e = .returned (.tuple #[.pointer (some ⟨bc, 0, none⟩), .int .i64 t, .nilIface]) ∧ IsPk w' wr.heap.size (fun _ => True) bc (rdPk y) ∧ Q w' (l.drop (k + (pos + n1))) ∧ IsPk w' W.heap.size (fun i => i < wr.heap.size) p (sofar cl b (ks.take j)) ∧ Only (fun i => i = g) W w' ∧ wr.heap.size ≤ w'.heap.size) := Lib.hid (by
            refine HCH.mono ?_
            rintro e w' ⟨h1, _, ho⟩
            obtain ⟨bc, he, hi, hq⟩ := h1 hw
            rw [List.drop_drop, Nat.add_assoc] at hq
            rw [ht]
            exact ⟨bc, he, hi, hq, (hpk.bound.only ho (fun i h1 h2 => by have h3 := HGB.out; have h4 := h1.2.1; omega)).mono (fun i h => h.2.2), hon.trans ho (fun i _ h => h), ho.size⟩)
          have HEOC : Hid (∀ w bc, IsPk w wr.heap.size (fun _ => True) bc (rdPk y) → Calls Tryz.prog 124 #[.pointer (some ⟨bc, 0, none⟩)] w fun e w' => e = .returned (.bool false) ∧ w' = w) := Lib.hid (fun w bc hi => by
            obtain ⟨db, v, bv, cv, P⟩ := parts_of hi
            exact isEOC_any _ w P (kp_noEOC hkj))
          have hsmall := rd_small hgj htj
          have hsf : Top (sofar cl b (ks.take j)) 20000000 := by
            have h1 := HALL.out
            have h2 := bytesT_le _ HGD.out (by have := HTS.out; omega)
            have h3 : ks = ks.take j ++ ks.drop j := (List.take_append_drop j ks).symm
            have h4 : (bytesL ks).length = (bytesL (ks.take j)).length + (bytesL (ks.drop j)).length := by
              conv => lhs; rw [h3]
              rw [bytesL_append, List.length_append]
            have h5 := HTS.out
            rw [bytesT] at h2
            simp only [List.length_append, List.nil_append] at h2
            have h6 := len_le_tsB ks
            rw [tsize] at h5 h2
            refine ⟨by show 0 ≤ cl; have := HCL.out; omega, by show cl ≤ 192; have := HCL.out; omega, by show cl % 64 = 0; have := HCL.out; omega, .inr rfl, h1.2.2.1, h1.2.2.2.1, by show (bytesL (ks.take j)).length ≤ _; omega, by show (rdL (ks.take j)).length ≤ _; rw [rdL_length, List.length_take]; omega⟩
          have HAPP : Hid (∀ w bc, IsPk w W.heap.size (fun i => i < wr.heap.size) p (sofar cl b (ks.take j)) → IsPk w wr.heap.size (fun _ => True) bc (rdPk y) → wr.heap.size ≤ w.heap.size → Calls Tryz.prog 86 #[.pointer (some ⟨p, 0, none⟩), .pointer (some ⟨bc, 0, none⟩)] w fun e w' => (∃ u, e = .returned u) ∧ IsPk w' W.heap.size (fun _ => True) p (sofar cl b (ks.take (j + 1))) ∧ Below W.heap.size w w') := Lib.hid (fun w bc h1 h2 h3 => by
            rw [List.take_succ_eq_append_getElem hj2, ← hy, ← sofar_add cl b _ htx]
            exact app_two h1 h2 HWR.out.2 h3 hsf (rd_top htx hsmall.1 hsmall.2) (by omega) (by omega))
          have HNX : Hid (pos + n1 ≤ nn ∧ k + (pos + n1) ≤ l.length ∧ ParL ((((l ++ m).drop k).take nn).drop (pos + n1)) (ks.drop (j + 1))) := Lib.hid ⟨by omega, hw2, by rw [← List.drop_drop]; exact hPs⟩
          have HJ2 := Lib.hid hj2
          have HPN : Hid (pos + n1 ≤ nn ∧ 2 ≤ n1) := Lib.hid ⟨by omega, hn1l.1⟩
          clear hy hj2 hj hpn hkp hpar hqq hpk hon hlr hP1 hPs hn1l hPc hbs hmem htx hkj hgj htj HCH ht hw hw2 hsmall hsf hc HP
          go_wp2_with (first
            | (go_at_call 104
               with_reducible refine HX.out.mono ?_
               rintro e W6 ⟨bc, rfl, hC6, hQ6, hP6, hO6, hs6⟩
               have HC6 := Lib.hid hC6
               have HQ6 := Lib.hid hQ6
               have HP6 := Lib.hid hP6
               have HO6 := Lib.hid (And.intro hO6 hs6)
               clear hC6 hQ6 hP6 hO6 hs6)
            | (go_at_call 124
               with_reducible refine (HEOC.out W6 bc HC6.out).mono ?_
               rintro e W7 ⟨rfl, rfl⟩)
            | (go_at_call 86
               with_reducible refine (HAPP.out W7 bc HP6.out HC6.out HO6.out.2).mono ?_
               rintro e W8 ⟨⟨u, rfl⟩, hP8, hB8⟩
               have HP8 := Lib.hid hP8
               have HB8 := Lib.hid hB8
               clear hP8 hB8))
          refine ⟨⟨j + 1, c + t, q + t, pos + n1, rfl, rfl, by have := HQQ.out; omega, by have h1 := HCC.out; have h2 := HTT.out; push_cast; omega, HJ2.out, Lib.hid ⟨HNX.out.1, HNX.out.2.1, HNX.out.2.2, HR.out.keep W7 W8 _ HQ6.out (fun i hi => HB8.out.block i (Nat.lt_of_lt_of_le hi HB.out)), HP8.out, ?_⟩⟩, ?_⟩
          · exact HO6.out.1.trans (S' := fun i => W.heap.size ≤ i) ⟨HB8.out.os, HB8.out.tape, HB8.out.output, HB8.out.size, fun i _ hn => HB8.out.block i (Nat.lt_of_not_le hn)⟩ (fun i hi h => absurd h (Nat.not_le.2 hi))
          · simp only [intOf]
            have h1 := HCC.out; have h2 := HTT.out; have h3 := HPN.out
            omega
        · have HX : Hid (Calls Tryz.prog 104 #[.iface T r, .int .i64 (depth + 1)] wr fun e w' => ∃ q v, e = .returned (.tuple #[.pointer none, .int .i64 q, (.iface 248 (.pointer (some v)))]) ∧ (v = va ∨ v = ua) ∧ Q w' [] ∧ Only (fun i => i = g) W w') := Lib.hid (by
            refine HCH.mono ?_
            rintro e w' ⟨_, h1, ho⟩
            obtain ⟨⟨q, v, he, hv⟩, hq⟩ := h1 (by omega)
            exact ⟨q, v, he, hv, hq, hon.trans ho (fun i _ h => h)⟩)
          have HCUT : Hid (l.length < k + nn) := Lib.hid (by rw [List.length_drop] at hw; omega)
          clear hy hj2 hj hpn hkp hpar hqq hpk hon hlr hP1 hPs hn1l hPc hbs hmem htx hkj hgj htj HCH ht hw hc HP
          go_wp2_with (first
            | (go_at_call 104
               with_reducible refine HX.out.mono ?_
               rintro e W6 ⟨qc, vc, rfl, hV6, hQ6, hO6⟩
               have HV6 := Lib.hid hV6
               have HQ6 := Lib.hid hQ6
               have HO6 := Lib.hid hO6
               clear hQ6 hV6 hO6)
            | (go_at_call 123
               with_reducible refine (HE.out W6 _ HV6.out HQ6.out).mono ?_
               rintro e W7 ⟨rfl, rfl⟩))
          go_ret3
          exact ⟨fun h => absurd h (by have := HCUT.out; omega), fun _ => ⟨⟨q, ua, rfl, .inr rfl⟩, HQ6.out⟩, HO6.out⟩
      · obtain rfl : j = ks.length := by omega
        have hrest := hpar
        rw [List.drop_length] at hrest
        have hr0 := hrest.eq_nil
        rw [hr0, List.length_nil] at hlr
        have hpe : pos = nn := by omega
        have hd1 : (c == n2) = true := by have := HN2.out; simp; omega
        have HF : Hid (q = ((k + nn : Nat) : Int) ∧ k + nn ≤ l.length) := Lib.hid ⟨by have h1 := HQQ.out; have h2 := HK2.out; push_cast; omega, by omega⟩
        have HPK := Lib.hid hpk
        have HON := Lib.hid hon
        have HQF : Hid (Q wr (l.drop (k + nn))) := Lib.hid (by rw [← hpe]; exact hqq)
        clear hrest hr0 hlr hpe hj hj2 hpn hkp hpar hqq hpk hon hc HP
        go_wp2
        go_ret3
        have e := HF.out.1
        refine ⟨fun _ => ⟨p, by show Ending.returned (.tuple #[.pointer (some ⟨p, 0, none⟩), .int .i64 q, .nilIface]) = _; rw [e], ?_, HQF.out⟩, fun h => absurd h (by have := HF.out.2; omega), HON.out⟩
        have h := HPK.out
        rw [List.take_length, sofar, HCL.out] at h
        rw [rdPk]
        exact h
end
end Go.Proofs.YteockihoefbmdaaGreatDoor.Ber
