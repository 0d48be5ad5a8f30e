/-
  The walk of laws.FnLeftOut.
-/
import Derived.Test.YtckfgdohpmllmaaDoorHowMany
namespace Go.Proofs.YtckfgdohpmllmaaDoor
open Go Go.RowKit
def TrueW (w : World) (e : Ending) (w' : World) : Prop := e = .returned (.bool true) ∧ Below w.heap.size w w'
theorem pow_succ' (s : Nat) : 2 ^ (s + 1) = 2 * 2 ^ s := by rw [Nat.pow_succ, Nat.mul_comm]
/-- A half, by its number. -/
theorem half_top (bs : List UInt8) (k : Nat) (u : Bool) (hk : k < 8 * bs.length) : Lib.beNat (halfB bs k u) / 2 ^ (8 * bs.length - (k + 1)) = 2 * (Lib.beNat bs / 2 ^ (8 * bs.length - k)) + if u then 1 else 0 := by
  rw [halfB_beNat bs k u hk]
  unfold hN
  obtain ⟨s, hs⟩ : ∃ s, 8 * bs.length - k = s + 1 := ⟨8 * bs.length - k - 1, by omega⟩
  rw [hs, show 8 * bs.length - (k + 1) = s by omega, show 8 * bs.length - 1 - k = s by omega, pow_succ']
  generalize Lib.beNat bs / (2 * 2 ^ s) = q
  have hp := Nat.pow_pos (n := s) (show 0 < 2 by omega)
  generalize 2 ^ s = T at *
  cases u
  · simp only [Bool.false_eq_true, if_false, Nat.add_zero]
    rw [← Nat.mul_assoc, Nat.mul_div_cancel _ hp, Nat.mul_comm]
  · simp only [if_true]
    rw [← Nat.mul_assoc, show q * 2 * T + T = (q * 2 + 1) * T by rw [Nat.add_mul, Nat.one_mul], Nat.mul_div_cancel _ hp, Nat.mul_comm]
/-- A prefix is made of its halves. -/
theorem half_split (bs : List UInt8) (k : Nat) (u : Bool) (x : List UInt8) (hk : k < 8 * bs.length) : (if inP bs k x then 1 else 0) = (if inP (halfB bs k (!u)) (k + 1) x then 1 else 0) + if inP (halfB bs k u) (k + 1) x then 1 else 0 := by
  unfold inP
  simp only [halfB_len]
  by_cases hl : x.length = bs.length
  · have h1 := half_top bs k u hk
    have h2 := half_top bs k (!u) hk
    rw [h1, h2]
    obtain ⟨s, hs⟩ : ∃ s, 8 * bs.length - k = s + 1 := ⟨8 * bs.length - k - 1, by omega⟩
    rw [hs, show 8 * bs.length - (k + 1) = s by omega, pow_succ']
    have hx : Lib.beNat x / (2 * 2 ^ s) = Lib.beNat x / 2 ^ s / 2 := by rw [Nat.mul_comm, Nat.div_div_eq_div_mul]
    rw [hx]
    generalize Lib.beNat x / 2 ^ s = X
    generalize Lib.beNat bs / (2 * 2 ^ s) = q
    simp only [hl, true_and, decide_eq_true_eq]
    cases u <;> simp <;> (repeat' split) <;> omega
  · simp [hl]
/-- What lies in a part of a prefix. -/
theorem top_le {P Q W k j : Nat} (h : P / 2 ^ (W - k) = Q / 2 ^ (W - k)) (hj : j ≤ k) : P / 2 ^ (W - j) = Q / 2 ^ (W - j) := by
  have e : ∀ X : Nat, X / 2 ^ (W - j) = X / 2 ^ (W - k) / 2 ^ ((W - j) - (W - k)) := fun X => by
    rw [Nat.div_div_eq_div_mul, ← Nat.pow_add]
    congr 2
    omega
  rw [e, e, h]
theorem half_in (bs : List UInt8) (k : Nat) (u : Bool) (hk : k < 8 * bs.length) : Lib.beNat (halfB bs k u) / 2 ^ (8 * bs.length - k) = Lib.beNat bs / 2 ^ (8 * bs.length - k) := by
  have h := half_top bs k u hk
  obtain ⟨s, hs⟩ : ∃ s, 8 * bs.length - k = s + 1 := ⟨8 * bs.length - k - 1, by omega⟩
  rw [show 8 * bs.length - (k + 1) = s by omega] at h
  rw [hs] at h ⊢
  rw [show Lib.beNat (halfB bs k u) / 2 ^ (s + 1) = Lib.beNat (halfB bs k u) / 2 ^ s / 2 by rw [Nat.div_div_eq_div_mul, Nat.pow_succ], h]
  cases u <;> simp <;> omega
theorem first_in (bs : List UInt8) (k : Nat) : Lib.beNat (wb bs k false) / 2 ^ (8 * bs.length - k) = Lib.beNat bs / 2 ^ (8 * bs.length - k) := by
  rw [wb_beNat]
  unfold wbN
  simp only [Bool.false_eq_true, if_false, Nat.add_zero]
  rw [Nat.mul_div_cancel _ (Nat.pow_pos (by omega))]
theorem manyIn_append (ps qs : List (List UInt8 × Nat)) (b : List UInt8) : manyIn (ps ++ qs) b = manyIn ps b + manyIn qs b := by unfold manyIn; rw [List.countP_append]
theorem manyIn_one (p : List UInt8) (k : Nat) (b : List UInt8) : manyIn [(p, k)] b = if inP p k b then 1 else 0 := by unfold manyIn; simp [List.countP_cons]
/-- The state of the loop: the box of the prefix, the box of the part, the row of the others. -/
structure LS (B gP gQ : Nat) (e q : Pf) (es : List Pf) (v : Value) (w : World) : Prop where
  bP : Blk w gP 29 #[.slice e.a e.n e.c, .string ⟨#[]⟩, .int .i64 e.k]
  bQ : Blk w gQ 29 #[.slice q.a q.n q.c, .string ⟨#[]⟩, .int .i64 q.k]
  lP : gP < B
  lQ : gQ < B
  ne : gP ≠ gQ
  le : B ≤ w.heap.size
  row : w.ownsRow B 29 3 v es.length (pfCells es)
  own : ownPf w 0 (e :: q :: es)
theorem LS.keep {B gP gQ : Nat} {e q : Pf} {es : List Pf} {v : Value} {w w' : World} (h : LS B gP gQ e q es v w) (hb : Below w.heap.size w w') : LS B gP gQ e q es v w' :=
  ⟨h.bP.below hb, h.bQ.below hb, h.lP, h.lQ, h.ne, Nat.le_trans h.le hb.size, own_below h.row hb, h.own.below hb⟩
theorem LS.push {B gP gQ : Nat} {e q : Pf} {es : List Pf} {v v' : Value} {w w' : World} (h : LS B gP gQ e q es v w) (x : Pf) (hx : w.ownsRow 0 5 1 (.slice x.a x.n x.c) x.n (Lib.byteCells x.bs)) (hg : w.grownBy w' v.ownBlock)
    (hr : w'.ownsRow B 29 3 v' (es.length + 1) (pfCells es ++ x.cells)) : LS B gP gQ e q (es ++ [x]) v' w' := by
  have hrow : ∀ g, v.ownBlock = some g → B ≤ g := own_row_ge h.row
  have hE : ownPf w 0 (e :: q :: (es ++ [x])) := fun y hy => by
    simp only [List.mem_cons, List.mem_append, List.not_mem_nil, or_false] at hy
    rcases hy with rfl | rfl | hy | rfl
    · exact h.own _ (by simp)
    · exact h.own _ (by simp)
    · exact h.own y (by simp [hy])
    · exact hx
  refine ⟨h.bP.grown hg (fun e => ?_), h.bQ.grown hg (fun e => ?_), h.lP, h.lQ, h.ne, Nat.le_trans h.le hg.size, ?_, hE.grown h.row (by decide) hg⟩
  · have := hrow gP e.symm; have := h.lP; omega
  · have := hrow gQ e.symm; have := h.lQ; omega
  · rw [pfCells_append, List.length_append]
    simpa [pfCells] using hr
theorem LS.store {B gP gQ : Nat} {e q : Pf} {es : List Pf} {v : Value} {w : World} (h : LS B gP gQ e q es v w) (x : Pf) (hx : w.ownsRow 0 5 1 (.slice x.a x.n x.c) x.n (Lib.byteCells x.bs)) :
    LS B gP gQ e x es v (((w.setCell ⟨gQ, 0, none⟩ (.slice x.a x.n x.c)).setCell ⟨gQ, 1, none⟩ (.string ⟨#[]⟩)).setCell ⟨gQ, 2, none⟩ (.int .i64 x.k)) := by
  have k0 := h.bQ
  have k1 := k0.set 0 (.slice x.a x.n x.c)
  have k2 := k1.set 1 (.string ⟨#[]⟩)
  have k3 := k2.set 2 (.int .i64 x.k)
  have put : ∀ {b t size v n xs}, w.ownsRow b t size v n xs → t ≠ 29 → (((w.setCell ⟨gQ, 0, none⟩ (.slice x.a x.n x.c)).setCell ⟨gQ, 1, none⟩ (.string ⟨#[]⟩)).setCell ⟨gQ, 2, none⟩ (.int .i64 x.k)).ownsRow b t size v n xs := fun ho ht =>
    own_set (own_set (own_set ho k0 ht 0 _) k1 ht 1 _) k2 ht 2 _
  have hP : ∀ (w1 : World) i u, Blk w1 gP 29 #[.slice e.a e.n e.c, .string ⟨#[]⟩, .int .i64 e.k] → Blk (w1.setCell ⟨gQ, i, none⟩ u) gP 29 #[.slice e.a e.n e.c, .string ⟨#[]⟩, .int .i64 e.k] := fun w1 i u hb =>
    (Below.heap_setCell _ _ _ _ h.ne).trans hb
  refine ⟨hP _ _ _ (hP _ _ _ (hP _ _ _ h.bP)), k3, h.lP, h.lQ, h.ne, by simp only [World.size_setCell]; exact h.le, ?_, fun y hy => ?_⟩
  · exact ownsRow_setCell_below (ownsRow_setCell_below (ownsRow_setCell_below h.row h.lQ _) h.lQ _) h.lQ _
  · simp only [List.mem_cons] at hy
    rcases hy with rfl | rfl | hy
    · exact put (h.own _ (by simp)) (by decide)
    · exact put hx (by decide)
    · exact put (h.own y (by simp [hy])) (by decide)
theorem LS.rp {B gP gQ : Nat} {e q : Pf} {es : List Pf} {A : Option Addr} {c : Nat} {w : World} (h : LS B gP gQ e q es (.slice A es.length c) w) : RP w A es.length es :=
  ⟨rfl, RC.of_own h.row, fun y hy => RB.of_own (h.own y (by simp [hy]))⟩
end Go.Proofs.YtckfgdohpmllmaaDoor
