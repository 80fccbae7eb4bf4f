/- Packets of the package as data: what impl.packet gives, in plain Lean; and the kids of a packet that is the call's own. · Packets that are put together step by step: where each stands in memory (At), a child more (app_at), a new one (encode_at, string_at). · ber.Encode of a string of bytes: its data are the string. -/
import Derived.Test.YtbmcpjkhnhbjdaaDoorAppend
import Derived.Test.YtbmcpjkhnhbjdaaDoorTree
import Derived.Test.YtbmcpjkhnhbjdaaDoorNewString
namespace Go.Proofs.YtbmcpjkhnhbjdaaDoor.Ber
open Go.RowKit Go.Proofs.YtbmcpjkhnhbjdaaDoorW.PrintWords Go.Proofs.YtbmcpjkhnhbjdaaDoor.Buf Go.Proofs.YtbmcpjkhnhbjdaaDoor.Pk Go.Proofs.YtbmcpjkhnhbjdaaDoor.Num Go.Proofs.YtbmcpjkhnhbjdaaDoor.Ident Go.Proofs.YtbmcpjkhnhbjdaaDoor.Tree Go.Proofs.YtbmcpjkhnhbjdaaDoor.PFnEncode
set_option linter.unusedVariables false
set_option linter.unusedSimpArgs false

mutual
/-- the packet as data -/
def trOf : Pk → S27
  | ⟨cls, typ, tag, _, _, data, kids, _⟩ => ⟨cls / 64, tag, decide (typ = 32), if typ = 32 then [] else data, if typ = 32 then trL kids else []⟩
def trL : List Pk → List S27
  | [] => []
  | x :: xs => trOf x :: trL xs
end
mutual
/-- a packet within Go's sizes -/
def okP : Pk → Prop
  | ⟨cls, typ, tag, _, _, data, kids, _⟩ => (0 ≤ cls ∧ cls ≤ 255) ∧ (typ = 0 ∨ typ = 32) ∧ (0 ≤ tag ∧ tag < 268435456) ∧ data.length < 1099511627776 ∧ kids.length < 1099511627776 ∧ okL kids
def okL : List Pk → Prop
  | [] => True
  | x :: xs => okP x ∧ okL xs
end
mutual
/-- how deep -/
def dp : Pk → Nat
  | ⟨_, _, _, _, _, _, kids, _⟩ => dpL kids + 1
def dpL : List Pk → Nat
  | [] => 0
  | x :: xs => max (dp x) (dpL xs)
end
theorem trL_append (l m : List Pk) : trL (l ++ m) = trL l ++ trL m := by
  induction l with
  | nil => rfl
  | cons x xs ih => rw [List.cons_append, trL, trL, ih]; rfl
theorem trL_length (l : List Pk) : (trL l).length = l.length := by
  induction l with
  | nil => rfl
  | cons x xs ih => rw [trL, List.length_cons, List.length_cons, ih]
theorem okL_mem : ∀ {l : List Pk} {x : Pk}, okL l → x ∈ l → okP x
  | y :: ys, x, h, hx => by
    rw [okL] at h
    rcases List.mem_cons.1 hx with rfl | hx
    · exact h.1
    · exact okL_mem h.2 hx
theorem dpL_mem : ∀ {l : List Pk} {x : Pk}, x ∈ l → dp x ≤ dpL l
  | y :: ys, x, hx => by
    rw [dpL]
    rcases List.mem_cons.1 hx with rfl | hx
    · exact Nat.le_max_left _ _
    · exact Nat.le_trans (dpL_mem hx) (Nat.le_max_right _ _)

/-- the kid at a place -/
theorem kid_at {w : World} {base : Nat} {ok : Nat → Prop} {v : Value} {xs : List Pk} (h : kPk.R TP w base ok v xs) {k : Nat} (hk : k < xs.length) :
    ∃ ad cap q, v = .slice (some ad) xs.length cap ∧ w.cell? (ad.add k) = some (.pointer (some ⟨q, 0, none⟩)) ∧ IsPk w base ok q xs[k] := by
  obtain ⟨h0, inner, ho, hr⟩ := h
  have hsz : kPk.sz = 1 := rfl
  rw [hsz] at ho hr
  obtain ⟨hl, ho⟩ := ho
  rcases ho with ⟨_, hn⟩ | ⟨g, cap, cur, rfl, hg, hcur, hc1, hc2, hc3, hc4⟩
  · omega
  · have hM := hr.2 k _ (List.getElem?_eq_getElem hk)
    rw [Nat.mul_one] at hM
    obtain ⟨hv, q, db, v', bv, cv, lr, e, hrest⟩ := open_M hM
    refine ⟨⟨g, 0, none⟩, cap, q, rfl, ?_, ?_⟩
    · have h1 : inner[k]? = some (.pointer (some ⟨q, 0, none⟩)) := by
        have := congrArg (fun l => l[0]?) e
        simp only [List.getElem?_take_of_lt (show 0 < 1 by decide), List.getElem?_drop] at this
        simpa using this
      rw [← hc4, Nat.mul_one, List.getElem?_take_of_lt hk, Array.getElem?_toList] at h1
      have := blk_cell hcur k
      rw [h1] at this
      rw [← this]
      congr 1
      unfold Addr.add
      simp
      intros
      omega
    · rw [e] at hM
      exact kPk.M_mono (fun k hk => hk.1) hM
/-- the kid at a place of a row that is told by its block -/
theorem kid_at0 {w : World} {base : Nat} {ok : Nat → Prop} {v : Value} {xs : List Pk} (h : kPk.R TP w base ok v xs) {k : Nat} (hk : k < xs.length) :
    ∃ g cap q, v = .slice (some ⟨g, 0, none⟩) xs.length cap ∧ w.cell? ⟨g, k, none⟩ = some (.pointer (some ⟨q, 0, none⟩)) ∧ IsPk w base ok q xs[k] := by
  obtain ⟨h0, inner, ho, hr⟩ := h
  have hsz : kPk.sz = 1 := rfl
  rw [hsz] at ho hr
  obtain ⟨hl, ho⟩ := ho
  rcases ho with ⟨_, hn⟩ | ⟨g, cap, cur, rfl, hg, hcur, hc1, hc2, hc3, hc4⟩
  · omega
  · have hM := hr.2 k _ (List.getElem?_eq_getElem hk)
    rw [Nat.mul_one] at hM
    obtain ⟨hv, q, db, v', bv, cv, lr, e, hrest⟩ := open_M hM
    refine ⟨g, cap, q, rfl, ?_, ?_⟩
    · have h1 : inner[k]? = some (.pointer (some ⟨q, 0, none⟩)) := by
        have := congrArg (fun l => l[0]?) e
        simp only [List.getElem?_take_of_lt (show 0 < 1 by decide), List.getElem?_drop] at this
        simpa using this
      rw [← hc4, Nat.mul_one, List.getElem?_take_of_lt hk, Array.getElem?_toList] at h1
      have := blk_cell hcur k
      rw [h1] at this
      exact this
    · rw [e] at hM
      exact kPk.M_mono (fun k hk => hk.1) hM
end Go.Proofs.YtbmcpjkhnhbjdaaDoor.Ber

namespace Go.Proofs.YtbmcpjkhnhbjdaaDoor.Ber
open Go.RowKit Go.Proofs.YtbmcpjkhnhbjdaaDoorW.PrintWords Go.Proofs.YtbmcpjkhnhbjdaaDoor.Buf Go.Proofs.YtbmcpjkhnhbjdaaDoor.Pk Go.Proofs.YtbmcpjkhnhbjdaaDoor.Num Go.Proofs.YtbmcpjkhnhbjdaaDoor.Ident
set_option linter.unusedVariables false
set_option linter.unusedSimpArgs false

/-- a packet with a child more -/
def addK (x y : Pk) : Pk := { x with data := x.data ++ pkBytes (y.cls / 64) y.tag (decide (y.typ = 32)) y.data, kids := x.kids ++ [y] }

/-- what may become a child -/
structure Top (y : Pk) (n : Nat) : Prop where
  c0 : 0 ≤ y.cls
  c1 : y.cls ≤ 192
  cm : y.cls % 64 = 0
  ty : y.typ = 0 ∨ y.typ = 32
  t0 : 0 ≤ y.tag
  t1 : y.tag < 268435456
  ln : y.data.length ≤ n
  nk : y.kids.length ≤ n

theorem Top.le {y : Pk} {n m : Nat} (h : Top y n) (hnm : n ≤ m) : Top y m := ⟨h.c0, h.c1, h.cm, h.ty, h.t0, h.t1, Nat.le_trans h.ln hnm, Nat.le_trans h.nk hnm⟩

theorem addK_top {x y : Pk} {n m : Nat} (hx : Top x n) (hy : Top y m) (hm : m < 1000000000000) : Top (addK x y) (n + 14 + m) := by
  refine ⟨hx.c0, hx.c1, hx.cm, hx.ty, hx.t0, hx.t1, ?_, ?_⟩
  · have h1 := identT_le' (y.cls / 64) y.tag (decide (y.typ = 32)) hy.t0 hy.t1
    have h2 := lenBytes_le y.data.length (by have := hy.ln; simp; omega)
    have := hx.ln
    have := hy.ln
    show (x.data ++ pkBytes _ _ _ _).length ≤ _
    simp only [pkBytes, List.length_append]
    omega
  · have := hx.nk
    show (x.kids ++ [y]).length ≤ _
    simp
    omega

/-- The packet x lies at q since W1; now is W; its blocks are from base on. -/
structure At (W1 W : World) (base q : Nat) (x : Pk) : Prop where
  is : IsPk W1 base (fun _ => True) q x
  bel : Below W1.heap.size W1 W
  le : base ≤ W1.heap.size

theorem At.go {W1 W W' : World} {base q : Nat} {x : Pk} (h : At W1 W base q x) {B : Nat} (hb : Below B W W') (hB : W1.heap.size ≤ B) : At W1 W' base q x :=
  ⟨h.is, h.bel.trans (hb.mono hB), h.le⟩
theorem At.on {W1 W W' : World} {base q : Nat} {x : Pk} (h : At W1 W base q x) (hb : Below W.heap.size W W') : At W1 W' base q x := h.go hb h.bel.size
theorem At.low {W1 W : World} {base base' q : Nat} {x : Pk} (h : At W1 W base q x) (hb : base' ≤ base) : At W1 W base' q x := ⟨h.is.lower hb, h.bel, Nat.le_trans hb h.le⟩
theorem Made.at {w w' : World} {x : Pk} {e : Ending} (h : Made w x e w') : ∃ q, e = .returned (.pointer (some ⟨q, 0, none⟩)) ∧ At w' w' w.heap.size q x ∧ Below w.heap.size w w' := by
  obtain ⟨q, he, hi, hb⟩ := h
  exact ⟨q, he, ⟨hi, Below.refl _ _, hb.size⟩, hb⟩

/-- AppendChild: the child is younger than the parent's last change. -/
theorem app_at {W1 W2 W : World} {base b2 q qc : Nat} {x y : Pk} {n m : Nat} (hx : At W1 W base q x) (hy : At W2 W b2 qc y) (hb : W1.heap.size ≤ b2) (tx : Top x n) (ty : Top y m) (hn : n < 1000000000000) (hm : m < 1000000000000) :
    Calls Tryd.prog 93 #[.pointer (some ⟨q, 0, none⟩), .pointer (some ⟨qc, 0, none⟩)] W fun e w' => (∃ u, e = .returned u) ∧ At w' w' base q (addK x y) ∧ Below base W w' := by
  have hbs := hx.le
  have hs1 := hx.bel.size
  obtain ⟨db, v, bv, cv, P⟩ := parts_of (hx.is.bound.below hx.bel)
  obtain ⟨dq, vq, bq, cq, C⟩ := parts_of ((hy.is.bound.below hy.bel).lower (base' := base) (by omega))
  have hs2 := hy.bel.size
  have hl := tx.ln
  have hl2 := ty.ln
  have hk := tx.nk
  have h0 := ty.c0
  have h1 := ty.c1
  have h2 := ty.cm
  have e1 : y.cls = y.cls / 64 * 64 := by omega
  have e2 : y.typ = if decide (y.typ = 32) = true then 32 else 0 := by
    rcases ty.ty with h | h <;> simp [h]
  refine (append_any (y.cls / 64) y.tag (decide (y.typ = 32)) (by omega) (by omega) ty.t0 ty.t1 x y e1 e2 rfl (by omega) (by omega) (by omega) W P C ?_ (fun j h1 => Nat.lt_of_lt_of_le h1.2.2 hs2) (Nat.le_trans hbs hs1) (fun j h1 => h1.2.1)).mono ?_
  · intro j h1 h2
    have h3 := h1.2.1
    have h4 := h2.2.2
    omega
  · rintro e W7 ⟨hu, hO7, v7, cv7, hP7⟩
    have h7 := (hP7.okmono (ok' := fun _ => True) (fun _ _ => trivial)).pk
    have hB := hO7.below (Nat.le_trans hbs hs1) (fun i hi => hi.2.1)
    exact ⟨hu, ⟨h7, Below.refl _ _, Nat.le_trans (Nat.le_trans hbs hs1) hB.size⟩, hB⟩

theorem bare_top (cls typ tag : Int) (val : Value) (desc : ByteArray) (h0 : 0 ≤ cls) (h1 : cls ≤ 192) (h2 : cls % 64 = 0) (h3 : typ = 0 ∨ typ = 32) (h4 : 0 ≤ tag) (h5 : tag < 268435456) : Top (bare cls typ tag val desc) 0 :=
  ⟨h0, h1, h2, h3, h4, h5, Nat.le_refl _, Nat.zero_le _⟩
theorem prim_top (cls typ tag : Int) (val : Value) (data : List Int) (desc : ByteArray) (h0 : 0 ≤ cls) (h1 : cls ≤ 192) (h2 : cls % 64 = 0) (h3 : typ = 0 ∨ typ = 32) (h4 : 0 ≤ tag) (h5 : tag < 268435456) {n : Nat} (hn : data.length ≤ n) : Top (prim cls typ tag val data desc) n :=
  ⟨h0, h1, h2, h3, h4, h5, hn, Nat.zero_le _⟩

theorem encode_at (cls typ tag : Int) (desc : ByteArray) (w : World) :
    Calls Tryd.prog 87 #[.int .u8 cls, .int .u8 typ, .int .u64 tag, .nilIface, .string desc] w fun e w' => ∃ q, e = .returned (.pointer (some ⟨q, 0, none⟩)) ∧ At w' w' w.heap.size q (bare cls typ tag .nilIface desc) ∧ Below w.heap.size w w' :=
  (encode_nil cls typ tag desc w).mono fun _ _ h => h.at
theorem string_at (cls typ tag : Int) (s desc : ByteArray) (w : World) (hs : s.size ≤ 140737488355328) :
    Calls Tryd.prog 62 #[.int .u8 cls, .int .u8 typ, .int .u64 tag, .string s, .string desc] w fun e w' => ∃ q, e = .returned (.pointer (some ⟨q, 0, none⟩)) ∧ At w' w' w.heap.size q (prim cls typ tag (strV s) (bytesOf s) desc) ∧ Below w.heap.size w w' :=
  (newString_any cls typ tag s desc w hs).mono fun _ _ h => h.at

/-- a text of these characters -/
def txt (l : List UInt8) : ByteArray := ⟨l.toArray⟩
end Go.Proofs.YtbmcpjkhnhbjdaaDoor.Ber

namespace Go.Proofs.YtbmcpjkhnhbjdaaDoor.Ber
open Go.RowKit Go.Proofs.YtbmcpjkhnhbjdaaDoorW.PrintWords Go.Proofs.YtbmcpjkhnhbjdaaDoor.Buf Go.Proofs.YtbmcpjkhnhbjdaaDoor.Pk
set_option linter.unusedVariables false
set_option linter.unusedSimpArgs false

theorem ta_str (s : ByteArray) : ∀ w : World, (Instr.typeAssert (.iface 9 (.string s)) 20 9 true).run Tryd.prog w = .ok (.tuple #[.string s, .bool true]) w := fun _ => by kernel_rfl

set_option maxHeartbeats 3200000 in
set_option maxRecDepth 100000 in
theorem encode_str (typ : Int) (s desc : ByteArray) (w : World) (hs : s.size ≤ 140737488355328) :
    Calls Tryd.prog 87 #[.int .u8 0, .int .u8 typ, .int .u64 4, .iface 9 (.string s), .string desc] w fun e w' => Made w (prim 0 typ 4 (strV s) (bytesOf s) desc) e w' := by
  have hmk := mk_kids
  have hcv := conv_bytes s
  have hta := ta_str s
  obtain ⟨db, v, bv, cv, P⟩ := parts_of (fresh_pk w 0 typ 4 (strV s) desc rfl).bound
  have h5 : (freshW w 0 typ 4 (strV s) desc).cell? ⟨w.heap.size, 5, none⟩ = some (.pointer (some ⟨w.heap.size + 1, 0, none⟩)) := blk_cell (blk_alloc (blk_alloc (blk_new w _) _) _) 5
  have hdb : db = w.heap.size + 1 := by
    have h6 := P.cell 5
    rw [h5] at h6
    injection h6 with h6
    injection h6 with h6
    injection h6 with h6
    injection h6 with h6
    exact h6.symm
  subst hdb
  have hsz : (freshW w 0 typ 4 (strV s) desc).heap.size = w.heap.size + 1 + 1 + 1 := by unfold freshW; simp
  have hB : Below w.heap.size w (freshW w 0 typ 4 (strV s) desc) := fresh_below w _ _ _
  have HW := Lib.hid (fun c => write_conv P hB.size s (w.heap.size + 1 + 1 + 1) c hsz.symm (by simpa [bare] using hs))
  have HB := Lib.hid hB
  clear P h5 hsz hB
  go_enter Tryd.func87, Tryd.ntmps87
  go_wp2_with (go_at_call 88; refine (HW.out _).mono ?_; rintro e W4 ⟨rfl, v', P4, ho4⟩)
  go_ret
  exact made_intro rfl P4 (HB.out.trans (ho4.below HB.out.size (fun _ hi => hi.2.1)))
theorem encstr_at (typ : Int) (s desc : ByteArray) (w : World) (hs : s.size ≤ 140737488355328) :
    Calls Tryd.prog 87 #[.int .u8 0, .int .u8 typ, .int .u64 4, .iface 9 (.string s), .string desc] w fun e w' => ∃ q, e = .returned (.pointer (some ⟨q, 0, none⟩)) ∧ At w' w' w.heap.size q (prim 0 typ 4 (strV s) (bytesOf s) desc) ∧ Below w.heap.size w w' :=
  (encode_str typ s desc w hs).mono fun _ _ h => h.at
end Go.Proofs.YtbmcpjkhnhbjdaaDoor.Ber
