/-
  A region that draws its order, and begins with one operation that yields its value in whatever world (the copy of a variable): it is taken first; then as in the first text of regions.
-/
import Derived.Test.YtaofindlomkbbaaDoorRegion
namespace Go.Proofs.YtaofindlomkbbaaDoor
open Go Go.RowKit
section
variable {P : Program} {ops : Array Oper} {md : Region.Mode} {C : World → Prop}
def sinkFrom (md : Region.Mode) (ops : Array Oper) (m n : Nat) : Bool :=
  (List.range n).all fun i => decide (i < m) || (List.range (n + 1)).any fun j => decide (i < j) && Region.waitsFor md ops j i
theorem low_set {m : Nat} {listed : Array Bool} (low : ∀ t, t < m → listed.getD t true = true) (j t : Nat) (ht : t < m) : (listed.setIfInBounds j true).getD t true = true := by
  by_cases h : j = t
  · subst h
    rcases Nat.lt_or_ge j listed.size with h' | h'
    · simp [h']
    · simp [h']
  · rw [getD_set_ne true h]; exact low t ht
theorem tail_waits2 {m n : Nat} {listed : Array Bool} (hs : sinkFrom md ops m n = true) (hc : Region.chainB md ops n = true) (hn : n < ops.size) (inv : HeadInv md ops n listed) (low : ∀ t, t < m → listed.getD t true = true) :
    ∀ (d i : Nat), n - i = d → i < n → listed.getD i true = false → ∀ t, n ≤ t → t ∉ Region.ready md ops listed := by
  intro d
  induction d using Nat.strongRecOn with
  | _ d ih =>
    intro i hd hi hun t ht hr
    obtain ⟨_, ot, hot, hall⟩ := mem_ready.1 hr
    have htlt : t < ops.size := (Array.getElem?_eq_some_iff.1 hot).1
    by_cases htn : t = n
    · subst htn
      have h1 := List.all_eq_true.1 hs i (List.mem_range.2 hi)
      have him : ¬ i < m := fun h => by have := low i h; rw [hun] at this; cases this
      simp only [him, decide_false, Bool.false_or] at h1
      obtain ⟨j, hj, hj2⟩ := List.any_eq_true.1 h1
      simp only [Bool.and_eq_true, decide_eq_true_eq] at hj2
      obtain ⟨oj, hoj, e, he, hb, hon⟩ := Region.waitsFor_spec hj2.2
      have hjle : j ≤ t := by have := List.mem_range.1 hj; omega
      by_cases hjt : j = t
      · subst hjt
        have : oj = ot := Option.some.inj (hoj.symm.trans hot)
        subst this
        have h2 := hall e he hb
        rw [hon, getD_both hun] at h2
        cases h2
      · cases hl : listed.getD j false with
        | true =>
          have h2 := inv.closed j oj hoj hl e he hb
          rw [hon, getD_both hun] at h2
          cases h2
        | false =>
          have hjs : j < listed.size := by rw [inv.size]; omega
          exact ih (t - j) (by omega) j rfl (by omega) (getD_in hjs hl) t (Nat.le_refl _) hr
    · have h1 := List.all_eq_true.1 hc t (List.mem_range.2 htlt)
      simp only [Bool.or_eq_true, decide_eq_true_eq] at h1
      rcases h1 with h1 | h1
      · omega
      · obtain ⟨o', ho', e, he, hb, hon⟩ := Region.waitsFor_spec h1
        have : o' = ot := Option.some.inj (ho'.symm.trans hot)
        subst this
        have h2 := hall e he hb
        rw [hon, getD_both (inv.tail (t - 1) (by omega) (by omega))] at h2
        cases h2
theorem head_first2 {m n i : Nat} {oi : Oper} {v : Value} {L : Array Bool → Act → Prop} (hi : ops[i]? = some oi) (hsel : ∀ (j : Nat) (o : Oper) cs b, ops[j]? = some o → o.op ≠ .select cs b)
    (hs : sinkFrom md ops m n = true) (hc : Region.chainB md ops n = true) (hn : n < ops.size) (hin : i < n)
    (hdone : ∀ listed a, L listed a → ∀ j ∈ Region.ready md ops listed, n ≤ j) :
    ∀ (f : Nat) (listed : Array Bool) (a : Act), HeadInv md ops n listed → (∀ t, t < m → listed.getD t true = true) →
      (∀ j oj, ops[j]? = some oj → j ≠ i → listed.getD j true = false → (∀ e ∈ oj.after, Region.binds md e = true → e.on ≠ i) → oi.apart ops oj = true) →
      i ∈ Region.ready md ops listed → YieldsIn P ops C oi v a →
      anyHead P md ops C n L f (listed.setIfInBounds i true) (a.put oi.dst v) → anyHead P md ops C n L (f + 1) listed a := by
  intro f
  induction f with
  | zero =>
    intro listed a inv low _ hr hy H
    have hun := (mem_ready.1 hr).1
    refine ⟨fun h => (by rw [h] at hr; cases hr), fun j hj => ?_⟩
    have hjn : j < n := by
      rcases Nat.lt_or_ge j n with h | h
      · exact h
      · exact absurd hj (tail_waits2 hs hc hn inv low _ i rfl hin hun j h)
    refine ⟨hjn, ?_⟩
    by_cases hji : j = i
    · subst hji; exact hy.qOp hi H
    · have := hdone _ _ H j (ready_mono hj hji)
      omega
  | succ f ih =>
    intro listed a inv low hfree hr hy H
    have hun := (mem_ready.1 hr).1
    refine ⟨fun h => (by rw [h] at hr; cases hr), fun j hj => ?_⟩
    have hjn : j < n := by
      rcases Nat.lt_or_ge j n with h | h
      · exact h
      · exact absurd hj (tail_waits2 hs hc hn inv low _ i rfl hin hun j h)
    refine ⟨hjn, ?_⟩
    by_cases hji : j = i
    · subst hji; exact hy.qOp hi H
    · have h1 := (H.2 j (ready_mono hj hji)).2
      obtain ⟨hjun, oj, hoj, hall⟩ := mem_ready.1 hj
      have hnot : ∀ e ∈ oj.after, Region.binds md e = true → e.on ≠ i := fun e he hb heq => by
        have h1 := hall e he hb
        rw [heq, getD_both hun] at h1
        cases h1
      have h2 := qOp_put hoj (hfree j oj hoj hji hjun hnot) (fun cs b => hsel i oi cs b hi) (fun cs b => hsel j oj cs b hoj) hy h1
      have hfree' : ∀ k ok, ops[k]? = some ok → k ≠ i → (listed.setIfInBounds j true).getD k true = false →
          (∀ e ∈ ok.after, Region.binds md e = true → e.on ≠ i) → oi.apart ops ok = true := fun k ok hk hki hun hno => by
        refine hfree k ok hk hki ?_ hno
        by_cases hjk : j = k
        · subst hjk; exact hjun
        · rw [getD_set_ne true hjk] at hun; exact hun
      refine qOp_mono (fun a' h3 => ih (listed.setIfInBounds j true) a' (inv.set hj hjn) (fun t ht => low_set low j t ht) hfree' (ready_mono hr (Ne.symm hji)) h3.1 ?_) h2
      rw [Array.setIfInBounds_comm _ _ hji]
      exact h3.2
theorem head_lex2 {m n g : Nat} {Lq : Act → Prop} (hsel : Region.noSelect ops = true) (hs : sinkFrom md ops m n = true) (hc : Region.chainB md ops n = true) (hn : n < ops.size) :
    ∀ (l : List Oper) (k : Nat) (listed : Array Bool) (a : Act), (∀ j, j < l.length → l[j]? = ops[k + j]?) → k + l.length = n → HeadInv md ops n listed → (∀ t, t < m → listed.getD t true = true) →
    Region.lexHead md ops g l.length k listed = true → wpQuiet P ops C Lq l a →
    anyHead P md ops C n (fun listed' a' => Region.seqB md ops g n listed' = true ∧ Lq a') l.length listed a
  | [], k, listed, a, _, hk, _, _, hB, h => by
    have : k = n := by simpa using hk
    subst this
    exact ⟨by simpa [Region.lexHead] using hB, h⟩
  | o :: l, k, listed, a, hl, hk, inv, low, hB, h => by
    have h0 : ops[k]? = some o := by simpa using (hl 0 (by simp)).symm
    simp only [List.length_cons, Region.lexHead, Bool.and_eq_true] at hB
    obtain ⟨⟨hr, hf⟩, hB'⟩ := hB
    have hkn : k < n := by simp only [List.length_cons] at hk; omega
    have hr' : k ∈ Region.ready md ops listed := by simpa using hr
    have hst : qOp P ops C k (wpQuiet P ops C Lq l) a := by unfold qOp; simp only [h0]; exact h
    obtain ⟨v, hy, hK⟩ := yieldsIn_of_qOp h0 hst
    exact head_first2 h0 (Region.noSelect_spec hsel) hs hc hn hkn (fun listed' a' hL => seqB_ready hL.1) l.length listed a inv low (Region.free_spec h0 hf) hr' hy
      (head_lex2 hsel hs hc hn l (k + 1) _ _ (fun j hj => by have := hl (j + 1) (by simp; omega); simpa [Nat.add_assoc, Nat.add_comm 1 j] using this) (by simp only [List.length_cons] at hk; omega) (inv.set hr' hkn) (fun t ht => low_set low k t ht) hB' hK)
def moveTailB (md : Region.Mode) (ops : Array Oper) (n : Nat) : Bool :=
  Region.noSelect ops && decide (0 < n) && decide (n < ops.size) && sinkFrom md ops 1 n && Region.chainB md ops n && Region.free md ops (Array.replicate ops.size false) 0 && (Region.ready md ops (Array.replicate ops.size false)).contains 0 &&
    ((ops[0]?).map fun o => o.after.isEmpty).getD false && Region.lexHead md ops (ops.size - n) (n - 1) 1 ((Array.replicate ops.size false).setIfInBounds 0 true)
/-- The first operation yields its value in whatever world; those up to n are quiet in the class C; the others come in one forced order behind them. -/
theorem region_mtail {id : Nat} {Q : Exit → Act → World → Prop} {a : Act} {w : World} {o : Oper} {l : List Oper} (C : World → Prop) (n : Nat) (hm : P.follows .mixedOrders = true) (hB : moveTailB .any (o :: l).toArray (n + 1) = true)
    (hC : C w.drew) (v : Value) (hQ : ∀ c a w, Q (.panic c) (a.put o.dst v) w → Q (.panic c) a w) (hy : Yields P (o :: l).toArray o v a)
    (h : wpQuiet P (o :: l).toArray C (fun a' => ∀ w', C w' → wpList P (o :: l).toArray Q (l.drop n) a' w') (l.take n) (a.put o.dst v)) : (Code.region id (o :: l).toArray true).wp P Q a w := by
  simp only [moveTailB, Bool.and_eq_true, decide_eq_true_eq] at hB
  obtain ⟨⟨⟨⟨⟨⟨⟨⟨hsel, _⟩, hn⟩, hs⟩, hc⟩, hf⟩, hr⟩, hafter⟩, hlex⟩ := hB
  have hn' : n < l.length := by simp at hn; omega
  have htl : (l.take n).length = n := by simp; omega
  have hdl : (l.drop n).length = (o :: l).toArray.size - (n + 1) := by simp
  have inv0 : HeadInv .any (o :: l).toArray (n + 1) ((Array.replicate (o :: l).toArray.size false).setIfInBounds 0 true) := by
    refine ⟨by simp, fun j oj hj hl e he _ => ?_, fun t ht ht' => ?_⟩
    · by_cases hj0 : 0 = j
      · subst hj0
        simp at hj
        subst hj
        simp at hafter
        rw [hafter] at he
        simp at he
      · rw [getD_set_ne false hj0, getD_replicate_false] at hl
        cases hl
    · rw [getD_set_ne true (by omega)]
      exact getD_in (by simpa using ht') (getD_replicate_false _ _)
  have low0 : ∀ t, t < 1 → ((Array.replicate (o :: l).toArray.size false).setIfInBounds 0 true).getD t true = true := fun t ht => by
    obtain rfl : t = 0 := by omega
    simp
  have H := head_lex2 (C := C) (md := .any) (m := 1) (g := (o :: l).toArray.size - (n + 1)) hsel hs hc hn (l.take n) 1 _ (a.put o.dst v) (fun j hj => by
    have hj' : j < n := by rw [htl] at hj; exact hj
    simp [hj', Nat.add_comm 1 j]) (by rw [htl]; omega) inv0 low0 (by rw [htl]; exact hlex) h
  refine wp_region_any hm ?_
  have := any_of_head (C := C) (Q' := Q) (g := (o :: l).toArray.size - (n + 1)) (fun listed a' w' hw' hL => by
    have := wpAny_of_seq (md := .any) (Q' := Q) (l.drop n) (n + 1) listed a' w' (fun j => by
      simp only [List.getElem?_drop, List.getElem?_toArray]
      rw [show n + 1 + j = (n + j) + 1 by omega, List.getElem?_cons_succ]) (by rw [hdl]; exact hL.1) (hL.2 w' hw')
    rwa [hdl] at this) _ _ _ _ hC H
  rw [htl] at this
  have hsz : n + ((o :: l).toArray.size - (n + 1)) + 1 = (o :: l).toArray.size := by simp; omega
  have h2 := wpAny_take (i := 0) (oi := o) (v := v) (by simp) hsel hf hr hQ hy this
  rw [hsz] at h2
  exact h2
end
end Go.Proofs.YtaofindlomkbbaaDoor
