/-
  A region that draws its order, over a class of worlds that only grow (Below). The order to walk is given: an operation marked 'false' yields one value in every world of the class and may be taken first; one marked 'true' is the only one ready: it may yield a new value, of which a lasting fact is kept. The tail is forced in order behind them.
-/
import Derived.Test.YtaofindlomkbbaaDoorRegion
namespace Go.Proofs.YtaofindlomkbbaaDoor
open Go Go.RowKit
section
variable {P : Program} {ops : Array Oper} {md : Region.Mode}
def Lasts (C : World → Prop) : Prop := ∀ w w', C w → Below w.heap.size w w' → C w'
theorem Lasts.and {C D : World → Prop} (h1 : Lasts C) (h2 : Lasts D) : Lasts (fun w => C w ∧ D w) := fun w w' h hb => ⟨h1 w w' h.1 hb, h2 w w' h.2 hb⟩
def tUpon (P : Program) (w : World) (T : Value → World → Prop) : Result Next → Prop
  | .ok (.value u) w' => T u w' ∧ Below w.heap.size w w'
  | .ok .skip w' => T undef w' ∧ Below w.heap.size w w'
  | .ok (.enter f args) w' => w' = w ∧ Calls P f args w (fun e w'' => ∃ v, e = .returned v ∧ T v w'' ∧ Below w.heap.size w w'')
  | _ => False
def tAt (P : Program) (o : Oper) (a : Act) (w : World) (T : Value → World → Prop) : Prop := tUpon P w T ((execOp a.eval o).run P w)
/-- As before; the world may change otherwise, too, if it stays in the class G. -/
def sUpon (P : Program) (G : World → Prop) (w : World) (T : Value → World → Prop) : Result Next → Prop
  | .ok (.value u) w' => T u w' ∧ (Below w.heap.size w w' ∨ G w')
  | .ok .skip w' => T undef w' ∧ (Below w.heap.size w w' ∨ G w')
  | .ok (.enter f args) w' => w' = w ∧ Calls P f args w (fun e w'' => ∃ v, e = .returned v ∧ T v w'' ∧ (Below w.heap.size w w'' ∨ G w''))
  | _ => False
def sAt (P : Program) (G : World → Prop) (o : Oper) (a : Act) (w : World) (T : Value → World → Prop) : Prop := sUpon P G w T ((execOp a.eval o).run P w)
theorem sAt_of {G : World → Prop} {o : Oper} {a : Act} {w : World} {T : Value → World → Prop} (h : tAt P o a w T) : sAt P G o a w T := by
  unfold tAt at h
  unfold sAt
  generalize (execOp a.eval o).run P w = r at *
  cases r with
  | ok n w' =>
    cases n <;> simp only [tUpon] at h <;> simp only [sUpon]
    case value u => exact ⟨h.1, .inl h.2⟩
    case skip => exact ⟨h.1, .inl h.2⟩
    case enter f args => exact ⟨h.1, h.2.mono fun e w'' he => by obtain ⟨v, h1, h2, h3⟩ := he; exact ⟨v, h1, h2, .inl h3⟩⟩
  | halt x w' => simp only [tUpon] at h
def tOp (P : Program) (ops : Array Oper) (C : World → Prop) (i : Nat) (K : (World → Prop) → Act → Prop) (a : Act) : Prop :=
  match ops[i]? with
  | none => K C a
  | some o => if Region.wanted o (yielded ops a.tmps) then ∃ T : Value → World → Prop, (∀ v, Lasts (T v)) ∧ (∀ w, C w → sAt P C o a w T) ∧ ∀ v, (∃ w, C w ∧ T v w) → K (fun w => C w ∧ T v w) (a.put o.dst v) else K C (a.put o.dst undef)
theorem tOp_mono {C : World → Prop} {i : Nat} {a : Act} {K K' : (World → Prop) → Act → Prop} (h : ∀ C' a, Lasts C' → (∀ w, C' w → C w) → K C' a → K' C' a) (hC : Lasts C) (hh : tOp P ops C i K a) : tOp P ops C i K' a := by
  unfold tOp at *
  split
  · rename_i ho; simp only [ho] at hh; exact h _ _ hC (fun _ h => h) hh
  · rename_i o ho
    simp only [ho] at hh
    split
    · rename_i hw
      simp only [hw, if_true] at hh
      obtain ⟨T, h1, h2, h3⟩ := hh
      exact ⟨T, h1, h2, fun v hv => h _ _ (hC.and (h1 v)) (fun _ h => h.1) (h3 v hv)⟩
    · rename_i hw; simp only [hw] at hh; exact h _ _ hC (fun _ h => h) hh
theorem wpOp_of_tOp {C : World → Prop} {i : Nat} {a : Act} {K : (World → Prop) → Act → Prop} {K' : Act → World → Prop} {Q' : Exit → Act → World → Prop} {w : World} (hC : Lasts C) (hw : C w) (h : ∀ C' a w', Lasts C' → C' w' → K C' a → K' a w') (hh : tOp P ops C i K a) : wpOp P ops Q' i K' a w := by
  unfold tOp at hh
  unfold wpOp
  split
  · rename_i ho; simp only [ho] at hh; exact h _ _ _ hC hw hh
  · rename_i o ho
    simp only [ho] at hh
    split
    · rename_i hwn
      simp only [hwn, if_true] at hh
      obtain ⟨T, h1, h2, h3⟩ := hh
      refine .inl ?_
      have h4 := h2 w hw
      unfold sAt at h4
      unfold Oper.wp
      have keep : ∀ w', (Below w.heap.size w w' ∨ C w') → C w' := fun w' hb => hb.elim (fun hb => hC _ _ hw hb) id
      generalize (execOp a.eval o).run P w = r at *
      cases r with
      | ok n w' =>
        cases n <;> simp only [sUpon] at h4 <;> simp only [Oper.upon]
        case value u =>
          obtain ⟨e2, hb⟩ := h4
          exact h _ _ _ (hC.and (h1 u)) ⟨keep _ hb, e2⟩ (h3 u ⟨w', keep _ hb, e2⟩)
        case skip =>
          obtain ⟨e2, hb⟩ := h4
          exact h _ _ _ (hC.and (h1 undef)) ⟨keep _ hb, e2⟩ (h3 undef ⟨w', keep _ hb, e2⟩)
        case enter f args =>
          obtain ⟨e1, hc⟩ := h4
          rw [e1]
          refine hc.mono fun e w'' he => ?_
          obtain ⟨v, rfl, hT, hb⟩ := he
          exact h _ _ _ (hC.and (h1 v)) ⟨keep _ hb, hT⟩ (h3 v ⟨w'', keep _ hb, hT⟩)
      | halt x w' => simp only [sUpon] at h4
    · rename_i hwn; simp only [hwn] at hh; exact h _ _ _ hC hw hh
/-- In state 'a', in every world of the class, the operation leaves 'v'. -/
def YieldsB (P : Program) (ops : Array Oper) (C : World → Prop) (o : Oper) (v : Value) (a : Act) : Prop :=
  (Region.wanted o (yielded ops a.tmps) = true ∧ ∀ w, C w → tAt P o a w (fun u _ => u = v)) ∨
  (Region.wanted o (yielded ops a.tmps) = false ∧ v = undef)
theorem YieldsB.sub {C D : World → Prop} {o : Oper} {v : Value} {a : Act} (hy : YieldsB P ops C o v a) (h : ∀ w, D w → C w) : YieldsB P ops D o v a := by
  rcases hy with ⟨h1, h2⟩ | h1
  · exact .inl ⟨h1, fun w hw => h2 w (h w hw)⟩
  · exact .inr h1
theorem YieldsB.tOp {C : World → Prop} {i : Nat} {o : Oper} {v : Value} {a : Act} (hi : ops[i]? = some o) (hy : YieldsB P ops C o v a) {K : (World → Prop) → Act → Prop} (h : K C (a.put o.dst v)) : tOp P ops C i K a := by
  unfold Go.Proofs.YtaofindlomkbbaaDoor.tOp
  simp only [hi]
  rcases hy with ⟨hw, hv⟩ | ⟨hw, rfl⟩
  · simp only [hw, if_true]
    refine ⟨fun u _ => u = v, fun u w w' h _ => h, fun w hw => sAt_of (hv w hw), fun u hu => ?_⟩
    obtain ⟨w, _, rfl⟩ := hu
    have : (fun w => C w ∧ u = u) = C := by funext w; simp
    rw [this]
    exact h
  · simp only [hw, Bool.false_eq_true, if_false]; exact h
theorem YieldsB.of_same {C : World → Prop} {o : Oper} {v : Value} {a a' : Act} (hy : YieldsB P ops C o v a) (he : execOp a'.eval o = execOp a.eval o)
    (hw : Region.wanted o (yielded ops a'.tmps) = Region.wanted o (yielded ops a.tmps)) : YieldsB P ops C o v a' := by
  unfold YieldsB tAt at *
  rw [he, hw]
  exact hy
theorem tOp_put {C : World → Prop} {j : Nat} {oi oj : Oper} {v : Value} (hj : ops[j]? = some oj) (hap : oi.apart ops oj = true)
    (hsi : ∀ cs b, oi.op ≠ .select cs b) (hsj : ∀ cs b, oj.op ≠ .select cs b) {K : (World → Prop) → Act → Prop} {a : Act}
    (hy : YieldsB P ops C oi v a) (h : tOp P ops C j K (a.put oi.dst v)) :
    tOp P ops C j (fun C' a' => YieldsB P ops C' oi v a' ∧ K C' (a'.put oi.dst v)) a := by
  obtain ⟨h1, h2, h3⟩ := Oper.apart_spec hap
  have keep : ∀ (a : Act), YieldsB P ops C oi v a → ∀ u, YieldsB P ops C oi v (a.put oj.dst u) := fun a hy u =>
    hy.of_same (execOp_put oi hsi a oj.dst u h3) (wanted_put oi a oj.dst u h3)
  unfold tOp at *
  simp only [hj] at *
  rw [wanted_put oj a oi.dst v h1] at h
  split
  · rename_i hw
    simp only [hw, if_true] at h
    obtain ⟨T, hT, hu, hn⟩ := h
    refine ⟨T, hT, fun w hw' => ?_, fun u hu' => ⟨(keep a hy u).sub fun _ h => h.1, by rw [← Act.put_comm a v u h2]; exact hn u hu'⟩⟩
    have := hu w hw'
    unfold sAt at *
    rwa [execOp_put oj hsj a oi.dst v h1] at this
  · rename_i hw
    simp only [hw] at h
    exact ⟨keep a hy _, by rw [← Act.put_comm a v undef h2]; exact h⟩
def anyT (P : Program) (md : Region.Mode) (ops : Array Oper) (n : Nat) (L : (World → Prop) → Array Bool → Act → Prop) : Nat → (World → Prop) → Array Bool → Act → Prop
  | 0, C, listed, a => L C listed a
  | f + 1, C, listed, a =>
    Region.ready md ops listed ≠ [] ∧ ∀ i ∈ Region.ready md ops listed, i < n ∧ tOp P ops C i (fun C' a' => anyT P md ops n L f C' (listed.setIfInBounds i true) a') a
theorem any_of_T {n g : Nat} {L : (World → Prop) → Array Bool → Act → Prop} {Q' : Exit → Act → World → Prop} (hL : ∀ C listed a w, C w → L C listed a → wpAny P md ops Q' g listed a w) :
    ∀ (f : Nat) (C : World → Prop) (listed : Array Bool) (a : Act) (w : World), Lasts C → C w → anyT P md ops n L f C listed a → wpAny P md ops Q' (f + g) listed a w
  | 0, C, listed, a, w, _, hw, h => by rw [Nat.zero_add]; exact hL _ _ _ _ hw h
  | f + 1, C, listed, a, w, hC, hw, h => by
    rw [show f + 1 + g = (f + g) + 1 by omega]
    exact ⟨fun h0 => absurd h0 h.1, fun i hi => wpOp_of_tOp hC hw (fun C' a' w' hC' hw' h' => any_of_T hL f C' _ a' w' hC' hw' h') (h.2 i hi).2⟩
/-- The tail waits for the head. -/
def Waits (md : Region.Mode) (ops : Array Oper) (n : Nat) : Prop := ∀ listed, HeadInv md ops n listed → ∀ i, i < n → listed.getD i true = false → ∀ j ∈ Region.ready md ops listed, j < n
theorem waits_tail {n : Nat} (hs : Region.sinkB md ops n = true) (hc : Region.chainB md ops n = true) (hn : n < ops.size) : Waits md ops n := fun listed inv i hi hun j hj => by
  rcases Nat.lt_or_ge j n with h | h
  · exact h
  · exact absurd hj (tail_waits hs hc hn inv _ i rfl hi hun j h)
theorem waits_all : Waits md ops ops.size := fun listed _ _ _ _ j hj => by
  obtain ⟨_, oj, hoj, _⟩ := mem_ready.1 hj
  exact (Array.getElem?_eq_some_iff.1 hoj).1
theorem anyT_first {n i : Nat} {oi : Oper} {v : Value} {L : (World → Prop) → Array Bool → Act → Prop} (hi : ops[i]? = some oi) (hsel : ∀ (j : Nat) (o : Oper) cs b, ops[j]? = some o → o.op ≠ .select cs b)
    (hT : Waits md ops n) (hin : i < n)
    (hdone : ∀ C listed a, L C listed a → ∀ j ∈ Region.ready md ops listed, n ≤ j) :
    ∀ (f : Nat) (C : World → Prop) (listed : Array Bool) (a : Act), Lasts C → HeadInv md ops n listed →
      (∀ j oj, ops[j]? = some oj → j ≠ i → listed.getD j true = false → (∀ e ∈ oj.after, Region.binds md e = true → e.on ≠ i) → oi.apart ops oj = true) →
      i ∈ Region.ready md ops listed → YieldsB P ops C oi v a →
      anyT P md ops n L f C (listed.setIfInBounds i true) (a.put oi.dst v) → anyT P md ops n L (f + 1) C listed a := by
  intro f
  induction f with
  | zero =>
    intro C listed a _ inv _ hr hy H
    have hun := (mem_ready.1 hr).1
    refine ⟨fun h => (by rw [h] at hr; cases hr), fun j hj => ?_⟩
    have hjn : j < n := hT _ inv i hin hun j hj
    refine ⟨hjn, ?_⟩
    by_cases hji : j = i
    · subst hji; exact hy.tOp hi H
    · have := hdone _ _ _ H j (ready_mono hj hji)
      omega
  | succ f ih =>
    intro C listed a hC inv hfree hr hy H
    have hun := (mem_ready.1 hr).1
    refine ⟨fun h => (by rw [h] at hr; cases hr), fun j hj => ?_⟩
    have hjn : j < n := hT _ inv i hin hun j hj
    refine ⟨hjn, ?_⟩
    by_cases hji : j = i
    · subst hji; exact hy.tOp hi H
    · have h1 := (H.2 j (ready_mono hj hji)).2
      obtain ⟨hjun, oj, hoj, hall⟩ := mem_ready.1 hj
      have hnot : ∀ e ∈ oj.after, Region.binds md e = true → e.on ≠ i := fun e he hb heq => by
        have h1 := hall e he hb
        rw [heq, getD_both hun] at h1
        cases h1
      have h2 := tOp_put hoj (hfree j oj hoj hji hjun hnot) (fun cs b => hsel i oi cs b hi) (fun cs b => hsel j oj cs b hoj) hy h1
      have hfree' : ∀ k ok, ops[k]? = some ok → k ≠ i → (listed.setIfInBounds j true).getD k true = false →
          (∀ e ∈ ok.after, Region.binds md e = true → e.on ≠ i) → oi.apart ops ok = true := fun k ok hk hki hun hno => by
        refine hfree k ok hk hki ?_ hno
        by_cases hjk : j = k
        · subst hjk; exact hjun
        · rw [getD_set_ne true hjk] at hun; exact hun
      refine tOp_mono (fun C' a' hC' _ h3 => ih C' (listed.setIfInBounds j true) a' hC' (inv.set hj hjn) hfree' (ready_mono hr (Ne.symm hji)) h3.1 ?_) hC h2
      rw [Array.setIfInBounds_comm _ _ hji]
      exact h3.2
/-- The walk along a given order: 'some j' behind an operation: it and number j, both new, come in either order, ahead of all else. -/
def wpT (P : Program) (ops : Array Oper) (Lq : (World → Prop) → Act → Prop) : List (Nat × Bool × Option Nat) → (World → Prop) → Act → Prop
  | [], C, a => Lq C a
  | (k, false, _) :: r, C, a => ∃ o v, ops[k]? = some o ∧ YieldsB P ops C o v a ∧ wpT P ops Lq r C (a.put o.dst v)
  | (k, true, none) :: r, C, a => tOp P ops C k (fun C' a' => wpT P ops Lq r C' a') a
  | (k, true, some j) :: r, C, a => ∃ oi oj, ∃ Ti Tj : Value → World → Prop, ∃ R : Value → Value → World → Prop, ops[k]? = some oi ∧ ops[j]? = some oj ∧ Region.wanted oi (yielded ops a.tmps) = true ∧ Region.wanted oj (yielded ops a.tmps) = true ∧ (∀ v, Lasts (Ti v)) ∧ (∀ v, Lasts (Tj v)) ∧ (∀ u v, Lasts (R u v)) ∧
      (∀ u v w, R u v w → Ti u w ∧ Tj v w) ∧ (∀ w, C w → tAt P oi a w Ti) ∧ (∀ w, C w → tAt P oj a w Tj) ∧ (∀ u w, C w → Ti u w → tAt P oj a w (R u)) ∧ (∀ v w, C w → Tj v w → tAt P oi a w (fun u => R u v)) ∧ ∀ u v, (∃ w, C w ∧ R u v w) → wpT P ops Lq r (fun w => C w ∧ R u v w) ((a.put oi.dst u).put oj.dst v)
def ordB (md : Region.Mode) (ops : Array Oper) (g n : Nat) : List (Nat × Bool × Option Nat) → Array Bool → Bool
  | [], listed => Region.seqB md ops g n listed
  | (k, true, some j) :: r, listed => decide (k < n) && decide (j < n) && decide (k ≠ j) && (Region.ready md ops listed == [k, j]) && (Region.ready md ops (listed.setIfInBounds k true) == [j]) && (Region.ready md ops (listed.setIfInBounds j true) == [k]) &&
      (match ops[k]?, ops[j]? with | some oi, some oj => oi.apart ops oj | _, _ => false) && ordB md ops g n r ((listed.setIfInBounds k true).setIfInBounds j true)
  | (k, b, _) :: r, listed => decide (k < n) && (if b then Region.ready md ops listed == [k] else (Region.ready md ops listed).contains k && Region.free md ops listed k) && ordB md ops g n r (listed.setIfInBounds k true)
/-- How many operations an order lists. -/
def ordLen : List (Nat × Bool × Option Nat) → Nat
  | [] => 0
  | (_, true, some _) :: r => ordLen r + 2
  | _ :: r => ordLen r + 1
theorem tOp_mk {C : World → Prop} {i : Nat} {o : Oper} {K : (World → Prop) → Act → Prop} {a : Act} (hi : ops[i]? = some o) (hw : Region.wanted o (yielded ops a.tmps) = true) (T : Value → World → Prop) (hT : ∀ v, Lasts (T v)) (h1 : ∀ w, C w → tAt P o a w T) (h2 : ∀ v, (∃ w, C w ∧ T v w) → K (fun w => C w ∧ T v w) (a.put o.dst v)) : tOp P ops C i K a := by
  unfold tOp
  simp only [hi]
  rw [if_pos hw]
  exact ⟨T, hT, fun w hw => sAt_of (h1 w hw), h2⟩
theorem anyT_ord {n g : Nat} {Lq : (World → Prop) → Act → Prop} (hsel : Region.noSelect ops = true) (hT : Waits md ops n) :
    ∀ (l : List (Nat × Bool × Option Nat)) (C : World → Prop) (listed : Array Bool) (a : Act), Lasts C → HeadInv md ops n listed → ordB md ops g n l listed = true → wpT P ops Lq l C a →
    anyT P md ops n (fun C' listed' a' => Region.seqB md ops g n listed' = true ∧ Lq C' a') (ordLen l) C listed a
  | [], C, listed, a, _, _, hB, h => ⟨hB, h⟩
  | (k, false, _) :: r, C, listed, a, hC, inv, hB, h => by
    simp only [ordB, Bool.and_eq_true, decide_eq_true_eq, Bool.false_eq_true, if_false] at hB
    obtain ⟨⟨hk, hr, hf⟩, hB2⟩ := hB
    have hr' : k ∈ Region.ready md ops listed := by simpa using hr
    obtain ⟨o, v, h0, hy, hK⟩ := h
    exact anyT_first h0 (Region.noSelect_spec hsel) hT hk (fun _ _ _ hL => seqB_ready hL.1) (ordLen r) C listed a hC inv (Region.free_spec h0 hf) hr' hy
      (anyT_ord hsel hT r C _ _ hC (inv.set hr' hk) hB2 hK)
  | (k, true, none) :: r, C, listed, a, hC, inv, hB, h => by
    simp only [ordB, Bool.and_eq_true, decide_eq_true_eq, if_true, beq_iff_eq] at hB
    obtain ⟨⟨hk, hB1⟩, hB2⟩ := hB
    refine ⟨by rw [hB1]; simp, fun i hi => ?_⟩
    rw [hB1] at hi
    obtain rfl : i = k := by simpa using hi
    exact ⟨hk, tOp_mono (fun C' a' hC' _ h' => anyT_ord hsel hT r C' _ a' hC' (inv.set (by rw [hB1]; simp) hk) hB2 h') hC h⟩
  | (k, true, some j) :: r, C, listed, a, hC, inv, hB, h => by
    simp only [ordB, Bool.and_eq_true, decide_eq_true_eq, beq_iff_eq] at hB
    obtain ⟨⟨⟨⟨⟨⟨⟨hk, hj⟩, hkj⟩, hr⟩, hrk⟩, hrj⟩, hap⟩, hB2⟩ := hB
    obtain ⟨oi, oj, Ti, Tj, R, h0, h1, wi, wj, li, lj, lr, sub, ti, tj, tij, tji, hK⟩ := h
    rw [h0, h1] at hap
    obtain ⟨p1, p2, p3⟩ := Oper.apart_spec hap
    have si := fun cs b => Region.noSelect_spec hsel k oi cs b h0
    have sj := fun cs b => Region.noSelect_spec hsel j oj cs b h1
    have mk : k ∈ Region.ready md ops listed := by rw [hr]; simp
    have mj : j ∈ Region.ready md ops listed := by rw [hr]; simp
    have mkj : j ∈ Region.ready md ops (listed.setIfInBounds k true) := by rw [hrk]; simp
    have fin : ∀ u v, (∃ w, C w ∧ R u v w) → anyT P md ops n (fun C' listed' a' => Region.seqB md ops g n listed' = true ∧ Lq C' a') (ordLen r) (fun w => C w ∧ R u v w) ((listed.setIfInBounds k true).setIfInBounds j true) ((a.put oi.dst u).put oj.dst v) := fun u v huv =>
      anyT_ord hsel hT r _ _ _ (hC.and (lr u v)) ((inv.set mk hk).set mkj hj) hB2 (hK u v huv)
    refine ⟨by rw [hr]; simp, fun i hi => ?_⟩
    rw [hr] at hi
    rcases List.mem_cons.1 hi with rfl | hi
    · refine ⟨hk, tOp_mk h0 wi Ti li ti fun u hu => ⟨by rw [hrk]; simp, fun i' hi' => ?_⟩⟩
      rw [hrk] at hi'
      obtain rfl : i' = j := by simpa using hi'
      refine ⟨hj, tOp_mk h1 (by rw [wanted_put oj a oi.dst u p1]; exact wj) (R u) (lr u) (fun w hw => ?_) fun v hv => ?_⟩
      · have := tij u w hw.1 hw.2
        unfold tAt at *
        rwa [execOp_put oj sj a oi.dst u p1]
      · have he : (fun w => (C w ∧ Ti u w) ∧ R u v w) = fun w => C w ∧ R u v w := by funext w; exact propext ⟨fun h => ⟨h.1.1, h.2⟩, fun h => ⟨⟨h.1, (sub u v w h.2).1⟩, h.2⟩⟩
        rw [he]
        obtain ⟨w, hw, hv⟩ := hv
        exact fin u v ⟨w, hw.1, hv⟩
    · obtain rfl : i = j := by simpa using hi
      refine ⟨hj, tOp_mk h1 wj Tj lj tj fun v hv => ⟨by rw [hrj]; simp, fun i' hi' => ?_⟩⟩
      rw [hrj] at hi'
      obtain rfl : i' = k := by simpa using hi'
      refine ⟨hk, tOp_mk h0 (by rw [wanted_put oi a oj.dst v p3]; exact wi) (fun u => R u v) (fun u => lr u v) (fun w hw => ?_) fun u hu => ?_⟩
      · have := tji v w hw.1 hw.2
        unfold tAt at *
        rwa [execOp_put oi si a oj.dst v p3]
      · have he : (fun w => (C w ∧ Tj v w) ∧ R u v w) = fun w => C w ∧ R u v w := by funext w; exact propext ⟨fun h => ⟨h.1.1, h.2⟩, fun h => ⟨⟨h.1, (sub u v w h.2).2⟩, h.2⟩⟩
        rw [he, Array.setIfInBounds_comm _ _ (Ne.symm hkj), ← Act.put_comm a u v p2]
        obtain ⟨w, hw, hv⟩ := hu
        exact fin u v ⟨w, hw.1, hv⟩
def ordTailB (md : Region.Mode) (ops : Array Oper) (ord : List (Nat × Bool × Option Nat)) (n : Nat) : Bool :=
  Region.noSelect ops && (decide (n = ops.size) || (decide (n < ops.size) && Region.sinkB md ops n && Region.chainB md ops n)) && decide (ordLen ord = n) && ordB md ops (ops.size - n) n ord (Array.replicate ops.size false)
theorem region_ord {id : Nat} {Q : Exit → Act → World → Prop} {a : Act} {w : World} {l : List Oper} (C : World → Prop) (ord : List (Nat × Bool × Option Nat)) (n : Nat) (hm : P.follows .mixedOrders = true) (hB : ordTailB .any l.toArray ord n = true)
    (hl : Lasts C) (hC : C w.drew) (h : wpT P l.toArray (fun C' a' => ∀ w', C' w' → wpList P l.toArray Q (l.drop n) a' w') ord C a) : (Code.region id l.toArray true).wp P Q a w := by
  simp only [ordTailB, Bool.and_eq_true, Bool.or_eq_true, decide_eq_true_eq] at hB
  obtain ⟨⟨⟨hsel, hT0⟩, hlen⟩, hord⟩ := hB
  have hT : Waits .any l.toArray n := by
    rcases hT0 with rfl | ⟨⟨hn, hs⟩, hc⟩
    · exact waits_all
    · exact waits_tail hs hc hn
  have hn : n ≤ l.toArray.size := by
    rcases hT0 with rfl | ⟨⟨hn, _⟩, _⟩
    · exact Nat.le_refl _
    · omega
  have hdl : (l.drop n).length = l.toArray.size - n := by simp
  have inv0 : HeadInv .any l.toArray n (Array.replicate l.toArray.size false) :=
    ⟨by simp, fun j oj _ hl => (by rw [getD_replicate_false] at hl; cases hl), fun t _ ht => getD_in (by simpa using ht) (getD_replicate_false _ _)⟩
  have H := anyT_ord (P := P) (md := .any) (g := l.toArray.size - n) hsel hT ord C _ a hl inv0 hord h
  refine wp_region_any hm ?_
  have := any_of_T (Q' := Q) (g := l.toArray.size - n) (fun C' listed a' w' hw' hL => by
    have := wpAny_of_seq (md := .any) (Q' := Q) (l.drop n) n listed a' w' (fun j => by simp [List.getElem?_drop]) (by rw [hdl]; exact hL.1) (hL.2 w' hw')
    rwa [hdl] at this) _ _ _ _ _ hl hC H
  rw [hlen, show n + (l.toArray.size - n) = l.toArray.size by omega] at this
  exact this
/-- The same walk, the operations themselves listed. -/
def wpL (P : Program) (ops : Array Oper) (Lq : (World → Prop) → Act → Prop) : List (Oper × Bool × Option Oper) → (World → Prop) → Act → Prop
  | [], C, a => Lq C a
  | (o, false, _) :: r, C, a => ∃ v, YieldsB P ops C o v a ∧ wpL P ops Lq r C (a.put o.dst v)
  | (o, true, none) :: r, C, a => if Region.wanted o (yielded ops a.tmps) then ∃ T : Value → World → Prop, (∀ v, Lasts (T v)) ∧ (∀ w, C w → sAt P C o a w T) ∧ ∀ v, (∃ w, C w ∧ T v w) → wpL P ops Lq r (fun w => C w ∧ T v w) (a.put o.dst v) else wpL P ops Lq r C (a.put o.dst undef)
  | (oi, true, some oj) :: r, C, a => ∃ Ti Tj : Value → World → Prop, ∃ R : Value → Value → World → Prop, Region.wanted oi (yielded ops a.tmps) = true ∧ Region.wanted oj (yielded ops a.tmps) = true ∧ (∀ v, Lasts (Ti v)) ∧ (∀ v, Lasts (Tj v)) ∧ (∀ u v, Lasts (R u v)) ∧
      (∀ u v w, R u v w → Ti u w ∧ Tj v w) ∧ (∀ w, C w → tAt P oi a w Ti) ∧ (∀ w, C w → tAt P oj a w Tj) ∧ (∀ u w, C w → Ti u w → tAt P oj a w (R u)) ∧ (∀ v w, C w → Tj v w → tAt P oi a w (fun u => R u v)) ∧ ∀ u v, (∃ w, C w ∧ R u v w) → wpL P ops Lq r (fun w => C w ∧ R u v w) ((a.put oi.dst u).put oj.dst v)
def pickOps (l : List Oper) : List (Nat × Bool × Option Nat) → List (Oper × Bool × Option Oper)
  | [] => []
  | (k, b, none) :: r => match l[k]? with
    | some o => (o, b, none) :: pickOps l r
    | none => pickOps l r
  | (k, b, some j) :: r => match l[k]?, l[j]? with
    | some oi, some oj => (oi, b, some oj) :: pickOps l r
    | _, _ => pickOps l r
def inB (n : Nat) : List (Nat × Bool × Option Nat) → Bool
  | [] => true
  | (k, _, none) :: r => decide (k < n) && inB n r
  | (k, _, some j) :: r => decide (k < n) && decide (j < n) && inB n r
theorem wpT_of_L {l : List Oper} {Lq : (World → Prop) → Act → Prop} : ∀ (ord : List (Nat × Bool × Option Nat)) (C : World → Prop) (a : Act), inB l.length ord = true → wpL P l.toArray Lq (pickOps l ord) C a → wpT P l.toArray Lq ord C a
  | [], C, a, _, h => h
  | (k, b, none) :: r, C, a, hk, h => by
    simp only [inB, Bool.and_eq_true, decide_eq_true_eq] at hk
    obtain ⟨hlt, hr⟩ := hk
    have h0 : l[k]? = some l[k] := List.getElem?_eq_getElem hlt
    have h0' : l.toArray[k]? = some l[k] := by rw [List.getElem?_toArray]; exact h0
    unfold pickOps at h
    rw [h0] at h
    cases b with
    | false =>
      obtain ⟨v, hy, hK⟩ := h
      exact ⟨_, v, h0', hy, wpT_of_L r C _ hr hK⟩
    | true =>
      show tOp _ _ _ _ _ _
      unfold tOp
      simp only [h0']
      change (if _ then _ else _) at h
      split
      · rename_i hw
        rw [if_pos hw] at h
        obtain ⟨T, h1, h2, h3⟩ := h
        exact ⟨T, h1, h2, fun v hv => wpT_of_L r _ _ hr (h3 v hv)⟩
      · rename_i hw
        rw [if_neg hw] at h
        exact wpT_of_L r _ _ hr h
  | (k, b, some j) :: r, C, a, hk, h => by
    simp only [inB, Bool.and_eq_true, decide_eq_true_eq] at hk
    obtain ⟨⟨hlt, hlj⟩, hr⟩ := hk
    have h0 : l[k]? = some l[k] := List.getElem?_eq_getElem hlt
    have h0' : l.toArray[k]? = some l[k] := by rw [List.getElem?_toArray]; exact h0
    have h1 : l[j]? = some l[j] := List.getElem?_eq_getElem hlj
    have h1' : l.toArray[j]? = some l[j] := by rw [List.getElem?_toArray]; exact h1
    unfold pickOps at h
    rw [h0, h1] at h
    cases b with
    | false =>
      obtain ⟨v, hy, hK⟩ := h
      exact ⟨_, v, h0', hy, wpT_of_L r C _ hr hK⟩
    | true =>
      obtain ⟨Ti, Tj, R, wi, wj, li, lj, lr, sub, ti, tj, tij, tji, hK⟩ := h
      exact ⟨_, _, Ti, Tj, R, h0', h1', wi, wj, li, lj, lr, sub, ti, tj, tij, tji, fun u v huv => wpT_of_L r _ _ hr (hK u v huv)⟩
theorem region_pick {id : Nat} {Q : Exit → Act → World → Prop} {a : Act} {w : World} {l : List Oper} (C : World → Prop) (ord : List (Nat × Bool × Option Nat)) (n : Nat) (hm : P.follows .mixedOrders = true) (hB : (ordTailB .any l.toArray ord n && inB l.length ord) = true)
    (hl : Lasts C) (hC : C w.drew) (h : wpL P l.toArray (fun C' a' => ∀ w', C' w' → wpList P l.toArray Q (l.drop n) a' w') (pickOps l ord) C a) : (Code.region id l.toArray true).wp P Q a w := by
  rw [Bool.and_eq_true] at hB
  exact region_ord C ord n hm hB.1 hl hC (wpT_of_L ord C a hB.2 h)
variable {Lq : (World → Prop) → Act → Prop} {C : World → Prop} {r : List (Oper × Bool × Option Oper)} {a : Act} {o : Oper}
theorem t_run (v : Value) (hw : Region.wanted o (yielded ops a.tmps) = true) (hr : ∀ w, C w → (execOp a.eval o).run P w = .ok (.value v) w) (h : wpL P ops Lq r C (a.put o.dst v)) : wpL P ops Lq ((o, false, none) :: r) C a := by
  refine ⟨v, .inl ⟨hw, fun w hw' => ?_⟩, h⟩
  unfold tAt
  rw [hr w hw']
  exact ⟨rfl, Below.refl _ _⟩
theorem t_skip (hw : Region.wanted o (yielded ops a.tmps) = false) (h : wpL P ops Lq r C (a.put o.dst undef)) : wpL P ops Lq ((o, false, none) :: r) C a :=
  ⟨undef, .inr ⟨hw, rfl⟩, h⟩
theorem t_call (f : FuncId) (args : Array Value) (v : Value) (hw : Region.wanted o (yielded ops a.tmps) = true) (hr : ∀ w, C w → (execOp a.eval o).run P w = .ok (.enter f args) w)
    (hc : ∀ w, C w → Calls P f args w (fun e w' => e = .returned v ∧ Below w.heap.size w w')) (h : wpL P ops Lq r C (a.put o.dst v)) : wpL P ops Lq ((o, false, none) :: r) C a := by
  refine ⟨v, .inl ⟨hw, fun w hw' => ?_⟩, h⟩
  unfold tAt
  rw [hr w hw']
  exact ⟨rfl, (hc w hw').mono fun e w' he => ⟨v, he.1, rfl, he.2⟩⟩
theorem t_skip1 (hw : Region.wanted o (yielded ops a.tmps) = false) (h : wpL P ops Lq r C (a.put o.dst undef)) : wpL P ops Lq ((o, true, none) :: r) C a := by
  unfold wpL
  rw [if_neg (by rw [hw]; exact Bool.false_ne_true)]
  exact h
theorem t_fresh (f : FuncId) (args : Array Value) (T : Value → World → Prop) (hw : Region.wanted o (yielded ops a.tmps) = true) (hr : ∀ w, C w → (execOp a.eval o).run P w = .ok (.enter f args) w) (hT : ∀ v, Lasts (T v))
    (hc : ∀ w, C w → Calls P f args w (fun e w' => ∃ v, e = .returned v ∧ T v w' ∧ Below w.heap.size w w')) (h : ∀ v, (∃ w, C w ∧ T v w) → wpL P ops Lq r (fun w => C w ∧ T v w) (a.put o.dst v)) : wpL P ops Lq ((o, true, none) :: r) C a := by
  unfold wpL
  rw [if_pos hw]
  refine ⟨T, hT, fun w hw' => sAt_of ?_, h⟩
  unfold tAt
  rw [hr w hw']
  exact ⟨rfl, hc w hw'⟩
/-- A new value that an operation itself makes (a block it lays). -/
theorem t_new (T : Value → World → Prop) (hw : Region.wanted o (yielded ops a.tmps) = true) (hT : ∀ v, Lasts (T v)) (hr : ∀ w, C w → ∃ v w', (execOp a.eval o).run P w = .ok (.value v) w' ∧ T v w' ∧ Below w.heap.size w w')
    (h : ∀ v, (∃ w, C w ∧ T v w) → wpL P ops Lq r (fun w => C w ∧ T v w) (a.put o.dst v)) : wpL P ops Lq ((o, true, none) :: r) C a := by
  unfold wpL
  rw [if_pos hw]
  refine ⟨T, hT, fun w hw' => sAt_of ?_, h⟩
  obtain ⟨v, w', h1, h2⟩ := hr w hw'
  unfold tAt
  rw [h1]
  exact h2
/-- A store into blocks that the class leaves open. -/
theorem t_store (T : World → Prop) (hw : Region.wanted o (yielded ops a.tmps) = true) (hT : Lasts T) (hr : ∀ w, C w → ∃ w', (execOp a.eval o).run P w = .ok .skip w' ∧ T w' ∧ C w')
    (h : (∃ w, C w ∧ T w) → wpL P ops Lq r (fun w => C w ∧ T w) (a.put o.dst undef)) : wpL P ops Lq ((o, true, none) :: r) C a := by
  unfold wpL
  rw [if_pos hw]
  refine ⟨fun v w => v = undef ∧ T w, fun v w w' h1 hb => ⟨h1.1, hT w w' h1.2 hb⟩, fun w hw' => ?_, fun v hv => ?_⟩
  · obtain ⟨w', h1, h2, h3⟩ := hr w hw'
    unfold sAt
    rw [h1]
    exact ⟨⟨rfl, h2⟩, .inr h3⟩
  · obtain ⟨w, hC, rfl, hv⟩ := hv
    have he : (fun w => C w ∧ undef = undef ∧ T w) = fun w => C w ∧ T w := by funext w; simp
    rw [he]
    exact h ⟨w, hC, hv⟩
/-- A builtin that changes the world within the class (append). -/
theorem t_change (T : Value → World → Prop) (hw : Region.wanted o (yielded ops a.tmps) = true) (hT : ∀ v, Lasts (T v)) (hr : ∀ w, C w → ∃ v w', (execOp a.eval o).run P w = .ok (.value v) w' ∧ T v w' ∧ C w')
    (h : ∀ v, (∃ w, C w ∧ T v w) → wpL P ops Lq r (fun w => C w ∧ T v w) (a.put o.dst v)) : wpL P ops Lq ((o, true, none) :: r) C a := by
  unfold wpL
  rw [if_pos hw]
  refine ⟨T, hT, fun w hw' => ?_, h⟩
  obtain ⟨v, w', h1, h2, h3⟩ := hr w hw'
  unfold sAt
  rw [h1]
  exact ⟨h2, .inr h3⟩
theorem tAt_new {o : Oper} {a : Act} {w : World} {T : Value → World → Prop} (v : Value) (w' : World) (hr : (execOp a.eval o).run P w = .ok (.value v) w') (hT : T v w') (hb : Below w.heap.size w w') : tAt P o a w T := by
  unfold tAt
  rw [hr]
  exact ⟨hT, hb⟩
theorem tAt_call {o : Oper} {a : Act} {w : World} {T : Value → World → Prop} (f : FuncId) (args : Array Value) (hr : (execOp a.eval o).run P w = .ok (.enter f args) w)
    (hc : Calls P f args w (fun e w' => ∃ v, e = .returned v ∧ T v w' ∧ Below w.heap.size w w')) : tAt P o a w T := by
  unfold tAt
  rw [hr]
  exact ⟨rfl, hc⟩
/-- Two new values, made in either order; what holds of both of them. -/
theorem t_pair {oj : Oper} (Ti Tj : Value → World → Prop) (R : Value → Value → World → Prop) (wi : Region.wanted o (yielded ops a.tmps) = true) (wj : Region.wanted oj (yielded ops a.tmps) = true) (li : ∀ v, Lasts (Ti v)) (lj : ∀ v, Lasts (Tj v)) (lr : ∀ u v, Lasts (R u v)) (sub : ∀ u v w, R u v w → Ti u w ∧ Tj v w)
    (ti : ∀ w, C w → tAt P o a w Ti) (tj : ∀ w, C w → tAt P oj a w Tj) (tij : ∀ u w, C w → Ti u w → tAt P oj a w (R u)) (tji : ∀ v w, C w → Tj v w → tAt P o a w (fun u => R u v))
    (h : ∀ u v, (∃ w, C w ∧ R u v w) → wpL P ops Lq r (fun w => C w ∧ R u v w) ((a.put o.dst u).put oj.dst v)) : wpL P ops Lq ((o, true, some oj) :: r) C a :=
  ⟨Ti, Tj, R, wi, wj, li, lj, lr, sub, ti, tj, tij, tji, h⟩
end
end Go.Proofs.YtaofindlomkbbaaDoor
