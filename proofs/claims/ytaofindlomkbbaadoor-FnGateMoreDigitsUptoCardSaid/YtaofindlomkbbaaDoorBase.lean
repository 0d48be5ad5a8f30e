/-
  Base texts for the proofs over net/netip: what the listed variables z0, z4, z6noz hold, and how handles compare.
-/
import Derived.Test.YtaofindlomkbbaaDoorRows
import Derived.Test.YtaofindlomkbbaaDoorRegion
import Derived.WalkKit
import Derived.WalkSpells
import Derived.WalkLawsBesides
import Derived.LaidEqlPtr
import Derived.BigQuiet
import Derived.Deep.QuietTactic
import Derived.Deep.RegionHeld3
import Derived.Deep.RegionWith
import Derived.Deep.DeepCutAuto
import Derived.Lib.Hide
import Derived.Lib.EndianBits
import Derived.Lib.Endian
import Derived.Handy
namespace Go.Proofs.YtaofindlomkbbaaDoor
open Go.RowKit
theorem cellPast (w : World) (o : Obj) (n i : Nat) (h : n < w.heap.size) : (w.alloc o).cell? ⟨n, i, none⟩ = w.cell? ⟨n, i, none⟩ := World.cell?_alloc_lt w o ⟨n, i, none⟩ h
@[go_sem] theorem cellPast2 (w : World) (o0 o1 : Obj) (n i : Nat) (h : n < w.heap.size) : ((w.alloc o0).alloc o1).cell? ⟨n, i, none⟩ = w.cell? ⟨n, i, none⟩ :=
  (cellPast (w.alloc o0) o1 n i (by simp; omega)).trans (cellPast w o0 n i h)
@[go_sem] theorem cellPast3 (w : World) (o0 o1 o2 : Obj) (n i : Nat) (h : n < w.heap.size) : (((w.alloc o0).alloc o1).alloc o2).cell? ⟨n, i, none⟩ = w.cell? ⟨n, i, none⟩ :=
  (cellPast ((w.alloc o0).alloc o1) o2 n i (by simp; omega)).trans (cellPast2 w o0 o1 n i h)
@[go_sem] theorem cellPast4 (w : World) (o0 o1 o2 o3 : Obj) (n i : Nat) (h : n < w.heap.size) : ((((w.alloc o0).alloc o1).alloc o2).alloc o3).cell? ⟨n, i, none⟩ = w.cell? ⟨n, i, none⟩ :=
  (cellPast (((w.alloc o0).alloc o1).alloc o2) o3 n i (by simp; omega)).trans (cellPast3 w o0 o1 o2 n i h)
@[go_sem] theorem cellPast5 (w : World) (o0 o1 o2 o3 o4 : Obj) (n i : Nat) (h : n < w.heap.size) : (((((w.alloc o0).alloc o1).alloc o2).alloc o3).alloc o4).cell? ⟨n, i, none⟩ = w.cell? ⟨n, i, none⟩ :=
  (cellPast ((((w.alloc o0).alloc o1).alloc o2).alloc o3) o4 n i (by simp; omega)).trans (cellPast4 w o0 o1 o2 o3 n i h)
@[go_sem] theorem cellPast6 (w : World) (o0 o1 o2 o3 o4 o5 : Obj) (n i : Nat) (h : n < w.heap.size) : ((((((w.alloc o0).alloc o1).alloc o2).alloc o3).alloc o4).alloc o5).cell? ⟨n, i, none⟩ = w.cell? ⟨n, i, none⟩ :=
  (cellPast (((((w.alloc o0).alloc o1).alloc o2).alloc o3).alloc o4) o5 n i (by simp; omega)).trans (cellPast5 w o0 o1 o2 o3 o4 n i h)
@[go_sem] theorem cellPast7 (w : World) (o0 o1 o2 o3 o4 o5 o6 : Obj) (n i : Nat) (h : n < w.heap.size) : (((((((w.alloc o0).alloc o1).alloc o2).alloc o3).alloc o4).alloc o5).alloc o6).cell? ⟨n, i, none⟩ = w.cell? ⟨n, i, none⟩ :=
  (cellPast ((((((w.alloc o0).alloc o1).alloc o2).alloc o3).alloc o4).alloc o5) o6 n i (by simp; omega)).trans (cellPast6 w o0 o1 o2 o3 o4 o5 n i h)
@[go_sem] theorem cellPast8 (w : World) (o0 o1 o2 o3 o4 o5 o6 o7 : Obj) (n i : Nat) (h : n < w.heap.size) : ((((((((w.alloc o0).alloc o1).alloc o2).alloc o3).alloc o4).alloc o5).alloc o6).alloc o7).cell? ⟨n, i, none⟩ = w.cell? ⟨n, i, none⟩ :=
  (cellPast (((((((w.alloc o0).alloc o1).alloc o2).alloc o3).alloc o4).alloc o5).alloc o6) o7 n i (by simp; omega)).trans (cellPast7 w o0 o1 o2 o3 o4 o5 o6 n i h)
/-- Block b is a plain row of cells, none of it frozen. -/
def plainAt (w : World) (b : Nat) : Bool :=
  match w.heap[b]? with
  | some (.cells _ _ (0, 0)) => true
  | _ => false
theorem plainAt_out {w : World} {b : Nat} (h : plainAt w b = true) : ∃ c t, w.heap[b]? = some (.cells c t (0, 0)) := by
  unfold plainAt at h
  split at h
  · exact ⟨_, _, by assumption⟩
  · cases h
theorem plainAt_lt {w : World} {b : Nat} (h : plainAt w b = true) : b < w.heap.size := by
  obtain ⟨c, t, h⟩ := plainAt_out h
  exact (Array.getElem?_eq_some_iff.1 h).1
theorem plainAt_mk {w : World} {b : Nat} {c : Array Value} {t : TypeId} (h : w.heap[b]? = some (.cells c t (0, 0))) : plainAt w b = true := by
  unfold plainAt; rw [h]; rfl
theorem plainAt_same {w w' : World} {b : Nat} (h : w'.heap[b]? = w.heap[b]?) : plainAt w' b = plainAt w b := by
  unfold plainAt; rw [h]
@[go_sem] theorem plainAt_drew (w : World) (b : Nat) : plainAt w.drew b = plainAt w b := rfl
@[go_sem] theorem plainAt_drewN (w : World) (n b : Nat) : plainAt (w.drewN n) b = plainAt w b := rfl
@[go_sem] theorem plainAt_alloc (w : World) (o : Obj) (b : Nat) (h : plainAt w b = true) : plainAt (w.alloc o) b = true := by
  rw [plainAt_same (Below.heap_alloc w o b (plainAt_lt h))]; exact h
@[go_sem] theorem plainAt_setCell (w : World) (p : Addr) (u : Value) (b : Nat) (h : plainAt w b = true) : plainAt (w.setCell p u) b = true := by
  obtain ⟨c, t, h⟩ := plainAt_out h
  unfold plainAt
  by_cases hb : p.block = b
  · subst hb
    simp only [World.setCell, Array.getElem?_modify, h]
    simp
  · rw [Below.heap_setCell _ _ _ _ (Ne.symm hb), h]; rfl
theorem info82 : (Tryd.prog.info? 112).map (·.size) = some 2 := by kernel_rfl
theorem und52 : Tryd.prog.underlying 50 = some (.pointer 112) := by kernel_rfl
@[go_sem] theorem eqp_same (w : World) (d : Nat) (a : Addr) : (Op.equalIn (d + 1) 50 (.pointer (some a)) (.pointer (some a))).run Tryd.prog w = .ok true w := by
  obtain ⟨j, hj, _⟩ := Option.map_eq_some_iff.1 info82
  simp [Op.equalIn, run_underlying und52, sizeOf, typeInfo, hj, run_sameAddr_same]
def apart2 (b o b' o' : Nat) : Bool := !(b == b' && o == o')
@[go_sem] theorem eqp_other (w : World) (d b o b' o' : Nat) (hne : apart2 b o b' o' = true) (ha : plainAt w b = true) (hb : plainAt w b' = true) :
    (Op.equalIn (d + 1) 50 (.pointer (some ⟨b, o, none⟩)) (.pointer (some ⟨b', o', none⟩))).run Tryd.prog w = .ok false w := by
  obtain ⟨j, hj, hs⟩ := Option.map_eq_some_iff.1 info82
  obtain ⟨_, _, ha⟩ := plainAt_out ha
  obtain ⟨_, _, hb⟩ := plainAt_out hb
  have hne' : (⟨b, o, none⟩ : Addr) ≠ ⟨b', o', none⟩ := by
    intro e
    injection e with e1 e2
    subst e1 e2
    simp [apart2] at hne
  simp [Op.equalIn, run_underlying und52, sizeOf, typeInfo, hj, hs, run_sameAddr_other w hne' ha hb]
@[go_sem] theorem eqp_nil (w : World) (d : Nat) (p : Option Addr) : (Op.equalIn (d + 1) 50 (.pointer p) (.pointer none)).run Tryd.prog w = .ok p.isNone w := by
  cases p <;> simp [Op.equalIn, run_underlying und52]
@[go_sem] theorem eqp_nil' (w : World) (d : Nat) (p : Option Addr) : (Op.equalIn (d + 1) 50 (.pointer none) (.pointer p)).run Tryd.prog w = .ok p.isNone w := by
  cases p <;> simp [Op.equalIn, run_underlying und52]
@[go_sem] theorem field_zone (b : Bool) (s : ByteArray) (w : World) : (Instr.field 112 (.agg #[.bool b, .string s]) 1).run Tryd.prog w = .ok (.string s) w := by kernel_rfl
/-- Where the details of z4 and z6noz lie. -/
structure ZP where
  b4 : Nat
  o4 : Nat
  b6 : Nat
  o6 : Nat
def ZP.ptr (z : ZP) : Option Bool → Option Addr
  | none => none
  | some false => some ⟨z.b4, z.o4, none⟩
  | some true => some ⟨z.b6, z.o6, none⟩
theorem ptr0 (z : ZP) : z.ptr none = none := rfl
theorem ptr4 (z : ZP) : z.ptr (some false) = some ⟨z.b4, z.o4, none⟩ := rfl
theorem ptr6 (z : ZP) : z.ptr (some true) = some ⟨z.b6, z.o6, none⟩ := rfl
/-- What the listed variables hold: z4 leads to an IPv4 detail, z6noz to an IPv6 detail without a zone, z0 is nil. -/
structure Zs (w : World) (z : ZP) : Prop where
  size : 6 < w.heap.size
  z4 : w.cell? ⟨1, 0, none⟩ = some (.pointer (some ⟨z.b4, z.o4, none⟩))
  z6 : w.cell? ⟨2, 0, none⟩ = some (.pointer (some ⟨z.b6, z.o6, none⟩))
  z0 : w.cell? ⟨0, 0, none⟩ = some (.pointer none)
  ne : apart2 z.b4 z.o4 z.b6 z.o6 = true
  ne' : apart2 z.b6 z.o6 z.b4 z.o4 = true
  p4 : plainAt w z.b4 = true
  p6 : plainAt w z.b6 = true
  d4 : w.cell? ⟨z.b4, z.o4, none⟩ = some (.bool false)
  d4' : w.cell? ⟨z.b4, z.o4 + 1, none⟩ = some (.string ⟨#[]⟩)
  d6 : w.cell? ⟨z.b6, z.o6, none⟩ = some (.bool true)
  d6' : w.cell? ⟨z.b6, z.o6 + 1, none⟩ = some (.string ⟨#[]⟩)
theorem Zs.keep {w w' : World} {z : ZP} (h : Zs w z) (hb : Below w.heap.size w w') : Zs w' z := by
  have b4 := plainAt_lt h.p4
  have b6 := plainAt_lt h.p6
  have hs := h.size
  refine ⟨Nat.lt_of_lt_of_le h.size hb.size, ?_, ?_, ?_, h.ne, h.ne', ?_, ?_, ?_, ?_, ?_, ?_⟩
  · rw [hb.cell (by show 1 < _; omega)]; exact h.z4
  · rw [hb.cell (by show 2 < _; omega)]; exact h.z6
  · rw [hb.cell (by show 0 < _; omega)]; exact h.z0
  · rw [plainAt_same (hb.block _ b4)]; exact h.p4
  · rw [plainAt_same (hb.block _ b6)]; exact h.p6
  · rw [hb.cell b4]; exact h.d4
  · rw [hb.cell b4]; exact h.d4'
  · rw [hb.cell b6]; exact h.d6
  · rw [hb.cell b6]; exact h.d6'
/-- What a walk that compares handles wants in its context. -/
theorem Zs.lay {w : World} {z : ZP} (h : Zs w z) : 1 < w.heap.size ∧ 2 < w.heap.size ∧ 0 < w.heap.size ∧ z.b4 < w.heap.size ∧ z.b6 < w.heap.size ∧
    w.cell? ⟨1, 0, none⟩ = some (.pointer (some ⟨z.b4, z.o4, none⟩)) ∧ w.cell? ⟨2, 0, none⟩ = some (.pointer (some ⟨z.b6, z.o6, none⟩)) ∧
    w.cell? ⟨0, 0, none⟩ = some (.pointer none) ∧ apart2 z.b4 z.o4 z.b6 z.o6 = true ∧ apart2 z.b6 z.o6 z.b4 z.o4 = true ∧ plainAt w z.b4 = true ∧ plainAt w z.b6 = true := by
  have := h.size
  exact ⟨by omega, by omega, by omega, plainAt_lt h.p4, plainAt_lt h.p6, h.z4, h.z6, h.z0, h.ne, h.ne', h.p4, h.p6⟩
/-- A slice of bytes: it holds bs, in blocks that are there. -/
def RB (w : World) (A : Option Addr) (n : Nat) (bs : List UInt8) : Prop :=
  bs.length = n ∧ (0 < n → ∃ g o, A = some ⟨g, o, none⟩ ∧ g < w.heap.size ∧ ∀ i, i < n → w.cell? ⟨g, o + i, none⟩ = some (.int .u8 (bs.getD i 0).toNat))
theorem RB.keep {w w' : World} {A : Option Addr} {n : Nat} {bs : List UInt8} (h : RB w A n bs) (hb : Below w.heap.size w w') : RB w' A n bs := by
  refine ⟨h.1, fun hn => ?_⟩
  obtain ⟨g, o, e, hg, hc⟩ := h.2 hn
  exact ⟨g, o, e, Nat.lt_of_lt_of_le hg hb.size, fun i hi => by rw [hb.cell (by exact hg)]; exact hc i hi⟩
theorem RB.nil (w : World) (A : Option Addr) : RB w A 0 [] := ⟨rfl, fun h => absurd h (by omega)⟩
/-- Since w new blocks have been laid: number j from there holds xs[j]; what was there before is as it was. -/
structure Boxes (w : World) (xs : List (Array Value)) (w' : World) : Prop where
  below : Below w.heap.size w w'
  size : w.heap.size + xs.length ≤ w'.heap.size
  cell : ∀ j x, xs[j]? = some x → ∀ i, w'.cell? ⟨w.heap.size + j, i, none⟩ = x[i]?
  free : ∀ j x, xs[j]? = some x → ∀ i, w'.frozen? ⟨w.heap.size + j, i, none⟩ = false
section
variable {w w1 w2 : World} {xs : List (Array Value)} {x0 x1 x2 x3 : Array Value}
theorem Boxes.nil (w : World) : Boxes w [] w := ⟨Below.refl _ _, by simp, fun j x h => by simp at h, fun j x h => by simp at h⟩
theorem Boxes.keep (h : Boxes w xs w1) (hb : Below w1.heap.size w1 w2) : Boxes w xs w2 := by
  have hs := h.size
  have hs2 := hb.size
  refine ⟨h.below.trans (hb.mono h.below.size), by omega, fun j x hj i => ?_, fun j x hj i => ?_⟩
  · have hl := (List.getElem?_eq_some_iff.1 hj).1
    rw [hb.cell (by show w.heap.size + j < _; omega)]; exact h.cell j x hj i
  · have hl := (List.getElem?_eq_some_iff.1 hj).1
    rw [hb.frozen (by show w.heap.size + j < _; omega)]; exact h.free j x hj i
theorem Boxes.drew (h : Boxes w xs w1) : Boxes w xs w1.drew := ⟨h.below.drew, h.size, h.cell, h.free⟩
theorem Boxes.alloc (h : Boxes w xs w1) (o : Obj) : Boxes w xs (w1.alloc o) := h.keep ((Below.refl _ _).alloc (Nat.le_refl _) o)
/-- A further block, right behind the others. -/
theorem Boxes.push (h : Boxes w xs w1) (he : w1.heap.size = w.heap.size + xs.length) (x : Array Value) (t : TypeId) : Boxes w (xs ++ [x]) (w1.alloc (.cells x t)) := by
  have h' := h.alloc (.cells x t)
  refine ⟨h'.below, by simp; omega, fun j y hj i => ?_, fun j y hj i => ?_⟩
  · by_cases hl : j < xs.length
    · rw [List.getElem?_append_left hl] at hj; exact h'.cell j y hj i
    · have hjl : j < xs.length + 1 := by have := (List.getElem?_eq_some_iff.1 hj).1; simpa using this
      obtain rfl : j = xs.length := by omega
      rw [List.getElem?_append_right (Nat.le_refl _)] at hj
      simp at hj
      subst hj
      rw [← he]
      exact World.cell?_alloc_new w1 x t i
  · by_cases hl : j < xs.length
    · rw [List.getElem?_append_left hl] at hj; exact h'.free j y hj i
    · have hjl : j < xs.length + 1 := by have := (List.getElem?_eq_some_iff.1 hj).1; simpa using this
      obtain rfl : j = xs.length := by omega
      unfold World.frozen?
      rw [← he]
      show (match (w1.heap.push (.cells x t))[w1.heap.size]? with | some (.cells _ _ (lo, hi)) => _ | _ => false) = false
      simp
theorem boxes1 (w : World) (t0 : TypeId) : Boxes w [x0] (w.alloc (.cells x0 t0)) := (Boxes.nil w).push (by simp) x0 t0
theorem boxes2 (w : World) (t0 t1 : TypeId) : Boxes w [x0, x1] ((w.alloc (.cells x0 t0)).alloc (.cells x1 t1)) := (boxes1 w t0).push (by simp) x1 t1
theorem boxes3 (w : World) (t0 t1 t2 : TypeId) : Boxes w [x0, x1, x2] (((w.alloc (.cells x0 t0)).alloc (.cells x1 t1)).alloc (.cells x2 t2)) := (boxes2 w t0 t1).push (by simp) x2 t2
theorem Boxes.b0 (h : Boxes w (x0 :: xs) w1) : ∀ i, w1.cell? ⟨w.heap.size, i, none⟩ = x0[i]? := h.cell 0 x0 rfl
theorem Boxes.b1 (h : Boxes w (x0 :: x1 :: xs) w1) : ∀ i, w1.cell? ⟨w.heap.size + 1, i, none⟩ = x1[i]? := h.cell 1 x1 rfl
theorem Boxes.b2 (h : Boxes w (x0 :: x1 :: x2 :: xs) w1) : ∀ i, w1.cell? ⟨w.heap.size + 1 + 1, i, none⟩ = x2[i]? := h.cell 2 x2 rfl
theorem Boxes.f0 (h : Boxes w (x0 :: xs) w1) : ∀ i, w1.frozen? ⟨w.heap.size, i, none⟩ = false := h.free 0 x0 rfl
theorem Boxes.f1 (h : Boxes w (x0 :: x1 :: xs) w1) : ∀ i, w1.frozen? ⟨w.heap.size + 1, i, none⟩ = false := h.free 1 x1 rfl
theorem Boxes.f2 (h : Boxes w (x0 :: x1 :: x2 :: xs) w1) : ∀ i, w1.frozen? ⟨w.heap.size + 1 + 1, i, none⟩ = false := h.free 2 x2 rfl
end
end Go.Proofs.YtaofindlomkbbaaDoor
