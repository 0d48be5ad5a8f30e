/-
  A region that draws its order, walked along a tree: where two or three operations are ready that yield new values, one branch for each that comes first.
-/
import Derived.Test.YtaofindlomkbbaaDoorRegion3
namespace Go.Proofs.YtaofindlomkbbaaDoor
open Go Go.RowKit
inductive OT where
  | nil : OT
  | q (k : Nat) (t : OT) : OT
  | f (k : Nat) (t : OT) : OT
  | two (k1 : Nat) (t1 : OT) (k2 : Nat) (t2 : OT) : OT
  | three (k1 : Nat) (t1 : OT) (k2 : Nat) (t2 : OT) (k3 : Nat) (t3 : OT) : OT
section
variable {P : Program} {ops : Array Oper} {md : Region.Mode}
def OT.okB (md : Region.Mode) (ops : Array Oper) (g n : Nat) : OT → Nat → Array Bool → Bool
  | .nil, 0, listed => Region.seqB md ops g n listed
  | .q k t, m + 1, listed => decide (k < n) && ((Region.ready md ops listed).contains k && Region.free md ops listed k) && t.okB md ops g n m (listed.setIfInBounds k true)
  | .f k t, m + 1, listed => decide (k < n) && (Region.ready md ops listed == [k]) && t.okB md ops g n m (listed.setIfInBounds k true)
  | .two k1 t1 k2 t2, m + 1, listed => decide (k1 < n) && decide (k2 < n) && (Region.ready md ops listed == [k1, k2]) && t1.okB md ops g n m (listed.setIfInBounds k1 true) && t2.okB md ops g n m (listed.setIfInBounds k2 true)
  | .three k1 t1 k2 t2 k3 t3, m + 1, listed => decide (k1 < n) && decide (k2 < n) && decide (k3 < n) && (Region.ready md ops listed == [k1, k2, k3]) && t1.okB md ops g n m (listed.setIfInBounds k1 true) && t2.okB md ops g n m (listed.setIfInBounds k2 true) && t3.okB md ops g n m (listed.setIfInBounds k3 true)
  | _, _, _ => false
def wpO (P : Program) (ops : Array Oper) (Lq : (World → Prop) → Act → Prop) : OT → (World → Prop) → Act → Prop
  | .nil, C, a => Lq C a
  | .q k t, C, a => ∃ o v, ops[k]? = some o ∧ YieldsB P ops C o v a ∧ wpO P ops Lq t C (a.put o.dst v)
  | .f k t, C, a => tOp P ops C k (fun C' a' => wpO P ops Lq t C' a') a
  | .two k1 t1 k2 t2, C, a => tOp P ops C k1 (fun C' a' => wpO P ops Lq t1 C' a') a ∧ tOp P ops C k2 (fun C' a' => wpO P ops Lq t2 C' a') a
  | .three k1 t1 k2 t2 k3 t3, C, a => tOp P ops C k1 (fun C' a' => wpO P ops Lq t1 C' a') a ∧ tOp P ops C k2 (fun C' a' => wpO P ops Lq t2 C' a') a ∧ tOp P ops C k3 (fun C' a' => wpO P ops Lq t3 C' a') a
theorem anyT_tree {n g : Nat} {Lq : (World → Prop) → Act → Prop} (hsel : Region.noSelect ops = true) (hT : Waits md ops n) :
    ∀ (t : OT) (m : Nat) (C : World → Prop) (listed : Array Bool) (a : Act), Lasts C → HeadInv md ops n listed → t.okB md ops g n m listed = true → wpO P ops Lq t C a →
    anyT P md ops n (fun C' listed' a' => Region.seqB md ops g n listed' = true ∧ Lq C' a') m C listed a
  | .nil, 0, C, listed, a, _, _, hB, h => ⟨hB, h⟩
  | .nil, _ + 1, _, _, _, _, _, hB, _ => by simp [OT.okB] at hB
  | .q k r, 0, _, _, _, _, _, hB, _ => by simp [OT.okB] at hB
  | .f k r, 0, _, _, _, _, _, hB, _ => by simp [OT.okB] at hB
  | .two _ _ _ _, 0, _, _, _, _, _, hB, _ => by simp [OT.okB] at hB
  | .three _ _ _ _ _ _, 0, _, _, _, _, _, hB, _ => by simp [OT.okB] at hB
  | .q k r, m + 1, C, listed, a, hC, inv, hB, h => by
    simp only [OT.okB, Bool.and_eq_true, decide_eq_true_eq] at hB
    obtain ⟨⟨hk, hr, hf⟩, hB2⟩ := hB
    have hr' : k ∈ Region.ready md ops listed := by simpa using hr
    obtain ⟨o, v, h0, hy, hK⟩ := h
    exact anyT_first h0 (Region.noSelect_spec hsel) hT hk (fun _ _ _ hL => seqB_ready hL.1) m C listed a hC inv (Region.free_spec h0 hf) hr' hy
      (anyT_tree hsel hT r m C _ _ hC (inv.set hr' hk) hB2 hK)
  | .f k r, m + 1, C, listed, a, hC, inv, hB, h => by
    simp only [OT.okB, Bool.and_eq_true, decide_eq_true_eq, beq_iff_eq] at hB
    obtain ⟨⟨hk, hB1⟩, hB2⟩ := hB
    refine ⟨by rw [hB1]; simp, fun i hi => ?_⟩
    rw [hB1] at hi
    obtain rfl : i = k := by simpa using hi
    exact ⟨hk, tOp_mono (fun C' a' hC' _ h' => anyT_tree hsel hT r m C' _ a' hC' (inv.set (by rw [hB1]; simp) hk) hB2 h') hC h⟩
  | .two k1 r1 k2 r2, m + 1, C, listed, a, hC, inv, hB, h => by
    simp only [OT.okB, Bool.and_eq_true, decide_eq_true_eq, beq_iff_eq] at hB
    obtain ⟨⟨⟨⟨hk1, hk2⟩, hB1⟩, hB2⟩, hB3⟩ := hB
    refine ⟨by rw [hB1]; simp, fun i hi => ?_⟩
    have hm := hi
    rw [hB1] at hi
    simp only [List.mem_cons, List.not_mem_nil, or_false] at hi
    rcases hi with rfl | rfl
    · exact ⟨hk1, tOp_mono (fun C' a' hC' _ h' => anyT_tree hsel hT r1 m C' _ a' hC' (inv.set hm hk1) hB2 h') hC h.1⟩
    · exact ⟨hk2, tOp_mono (fun C' a' hC' _ h' => anyT_tree hsel hT r2 m C' _ a' hC' (inv.set hm hk2) hB3 h') hC h.2⟩
  | .three k1 r1 k2 r2 k3 r3, m + 1, C, listed, a, hC, inv, hB, h => by
    simp only [OT.okB, Bool.and_eq_true, decide_eq_true_eq, beq_iff_eq] at hB
    obtain ⟨⟨⟨⟨⟨⟨hk1, hk2⟩, hk3⟩, hB1⟩, hB2⟩, hB3⟩, hB4⟩ := hB
    refine ⟨by rw [hB1]; simp, fun i hi => ?_⟩
    have hm := hi
    rw [hB1] at hi
    simp only [List.mem_cons, List.not_mem_nil, or_false] at hi
    rcases hi with rfl | rfl | rfl
    · exact ⟨hk1, tOp_mono (fun C' a' hC' _ h' => anyT_tree hsel hT r1 m C' _ a' hC' (inv.set hm hk1) hB2 h') hC h.1⟩
    · exact ⟨hk2, tOp_mono (fun C' a' hC' _ h' => anyT_tree hsel hT r2 m C' _ a' hC' (inv.set hm hk2) hB3 h') hC h.2.1⟩
    · exact ⟨hk3, tOp_mono (fun C' a' hC' _ h' => anyT_tree hsel hT r3 m C' _ a' hC' (inv.set hm hk3) hB4 h') hC h.2.2⟩
def treeB (md : Region.Mode) (ops : Array Oper) (t : OT) (n : Nat) : Bool :=
  Region.noSelect ops && (decide (n = ops.size) || (decide (n < ops.size) && Region.sinkB md ops n && Region.chainB md ops n)) && t.okB md ops (ops.size - n) n n (Array.replicate ops.size false)
theorem region_tree {id : Nat} {Q : Exit → Act → World → Prop} {a : Act} {w : World} {l : List Oper} (C : World → Prop) (t : OT) (n : Nat) (hm : P.follows .mixedOrders = true) (hB : treeB .any l.toArray t n = true)
    (hl : Lasts C) (hC : C w.drew) (h : wpO P l.toArray (fun C' a' => ∀ w', C' w' → wpList P l.toArray Q (l.drop n) a' w') t C a) : (Code.region id l.toArray true).wp P Q a w := by
  simp only [treeB, Bool.and_eq_true, Bool.or_eq_true, decide_eq_true_eq] at hB
  obtain ⟨⟨hsel, hT0⟩, hord⟩ := hB
  have hT : Waits .any l.toArray n := by
    rcases hT0 with rfl | ⟨⟨hn, hs⟩, hc⟩
    · exact waits_all
    · exact waits_tail hs hc hn
  have hn : n ≤ l.toArray.size := by
    rcases hT0 with rfl | ⟨⟨hn, _⟩, _⟩
    · exact Nat.le_refl _
    · omega
  have hdl : (l.drop n).length = l.toArray.size - n := by simp
  have inv0 : HeadInv .any l.toArray n (Array.replicate l.toArray.size false) :=
    ⟨by simp, fun j oj _ hl => (by rw [getD_replicate_false] at hl; cases hl), fun t _ ht => getD_in (by simpa using ht) (getD_replicate_false _ _)⟩
  have H := anyT_tree (P := P) (md := .any) (g := l.toArray.size - n) hsel hT t n C _ a hl inv0 hord h
  refine wp_region_any hm ?_
  have := any_of_T (Q' := Q) (g := l.toArray.size - n) (fun C' listed a' w' hw' hL => by
    have := wpAny_of_seq (md := .any) (Q' := Q) (l.drop n) n listed a' w' (fun j => by simp [List.getElem?_drop]) (by rw [hdl]; exact hL.1) (hL.2 w' hw')
    rwa [hdl] at this) _ _ _ _ _ hl hC H
  rw [show n + (l.toArray.size - n) = l.toArray.size by omega] at this
  exact this
variable {Lq : (World → Prop) → Act → Prop} {C : World → Prop} {r : OT} {a : Act} {o : Oper} {k : Nat}
theorem o_run (ho : ops[k]? = some o) (v : Value) (hw : Region.wanted o (yielded ops a.tmps) = true) (hr : ∀ w, C w → (execOp a.eval o).run P w = .ok (.value v) w) (h : wpO P ops Lq r C (a.put o.dst v)) : wpO P ops Lq (.q k r) C a := by
  refine ⟨o, v, ho, .inl ⟨hw, fun w hw' => ?_⟩, h⟩
  unfold tAt
  rw [hr w hw']
  exact ⟨rfl, Below.refl _ _⟩
theorem o_at (ho : ops[k]? = some o) (T : Value → World → Prop) (hw : Region.wanted o (yielded ops a.tmps) = true) (hT : ∀ v, Lasts (T v)) (ht : ∀ w, C w → tAt P o a w T)
    {K : (World → Prop) → Act → Prop} (h : ∀ v, (∃ w, C w ∧ T v w) → K (fun w => C w ∧ T v w) (a.put o.dst v)) : tOp P ops C k K a :=
  tOp_mk ho hw T hT ht h
theorem o_store (ho : ops[k]? = some o) (T : World → Prop) (hw : Region.wanted o (yielded ops a.tmps) = true) (hT : Lasts T) (hr : ∀ w, C w → ∃ w', (execOp a.eval o).run P w = .ok .skip w' ∧ T w' ∧ C w')
    {K : (World → Prop) → Act → Prop} (h : K (fun w => C w ∧ T w) (a.put o.dst undef)) : tOp P ops C k K a := by
  unfold tOp
  simp only [ho]
  rw [if_pos hw]
  refine ⟨fun v w => v = undef ∧ T w, fun v w w' h1 hb => ⟨h1.1, hT w w' h1.2 hb⟩, fun w hw' => ?_, fun v hv => ?_⟩
  · obtain ⟨w', h1, h2, h3⟩ := hr w hw'
    unfold sAt
    rw [h1]
    exact ⟨⟨rfl, h2⟩, .inr h3⟩
  · obtain ⟨w, hw1, rfl, hw2⟩ := hv
    have : (fun w => C w ∧ undef = undef ∧ T w) = fun w => C w ∧ T w := by funext w; simp
    rw [this]
    exact h
theorem o_nil (h : Lq C a) : wpO P ops Lq .nil C a := h
theorem o_f (h : tOp P ops C k (fun C' a' => wpO P ops Lq r C' a') a) : wpO P ops Lq (.f k r) C a := h
theorem o_two {k2 : Nat} {r2 : OT} (h : tOp P ops C k (fun C' a' => wpO P ops Lq r C' a') a) (h2 : tOp P ops C k2 (fun C' a' => wpO P ops Lq r2 C' a') a) : wpO P ops Lq (.two k r k2 r2) C a := ⟨h, h2⟩
theorem o_three {k2 k3 : Nat} {r2 r3 : OT} (h : tOp P ops C k (fun C' a' => wpO P ops Lq r C' a') a) (h2 : tOp P ops C k2 (fun C' a' => wpO P ops Lq r2 C' a') a) (h3 : tOp P ops C k3 (fun C' a' => wpO P ops Lq r3 C' a') a) : wpO P ops Lq (.three k r k2 r2 k3 r3) C a := ⟨h, h2, h3⟩
theorem o_class {D : World → Prop} (h : ∀ w, C w ↔ D w) (H : wpO P ops Lq r D a) : wpO P ops Lq r C a := by
  rw [show C = D from funext fun w => propext (h w)]
  exact H
/-- The rest, told once for all branches. -/
theorem rest4 {G : Prop} {X Y Z V : Type} {K : X → Y → Z → V → Prop} (h : (∀ x y z v, K x y z v) → G) (rest : ∀ x y z v, K x y z v) : G := h rest
end
end Go.Proofs.YtaofindlomkbbaaDoor
