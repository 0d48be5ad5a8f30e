/-
  The walk of laws.FnAggregate.
-/
import Derived.Test.YtckfgdohpmllmaaDoorAllIn
import Derived.Test.YtckfgdohpmllmaaDoorRunL
import Derived.Test.YtckfgdohpmllmaaDoorRoom
import Derived.Test.YtckfgdohpmllmaaDoorAppOld
import Derived.Test.YtckfgdohpmllmaaDoorRegion4
namespace Go.Proofs.YtckfgdohpmllmaaDoor
open Go Go.RowKit
/-- What is left covers what the list does. -/
structure AggInv (l : List (List UInt8 × Nat)) (es : List Pf) : Prop where
  v : ∀ e ∈ es, Vp e.is
  un : ∀ x, (∃ e ∈ es, inP e.bs e.k x = true) ↔ ∃ p ∈ l, inP p.1 p.2 x = true
theorem inP_bit {a b : List UInt8} {k : Nat} (hk : k ≤ 8 * b.length) : inP b k a = true ↔ a.length = b.length ∧ ∀ i < k, bitAt a i = bitAt b i := by
  rw [inP_iff]
  constructor
  · rintro ⟨h1, h2⟩; exact ⟨h1, bits_of_top h1 hk h2⟩
  · rintro ⟨h1, h2⟩; exact ⟨h1, top_of_bits h1 hk h2⟩
theorem AggInv.start {l : List (List UInt8 × Nat)} {es : List Pf} (hv : ∀ p ∈ l, Vp p) (h : es.map Pf.is = l.map maskIs) : AggInv l es := by
  constructor
  · intro e he
    have : e.is ∈ es.map Pf.is := List.mem_map_of_mem he
    rw [h] at this
    obtain ⟨p, hp, h1⟩ := List.mem_map.1 this
    rw [← h1]
    exact maskIs_valid (hv p hp)
  · intro x
    constructor
    · rintro ⟨e, he, hx⟩
      have : e.is ∈ es.map Pf.is := List.mem_map_of_mem he
      rw [h] at this
      obtain ⟨p, hp, h1⟩ := List.mem_map.1 this
      refine ⟨p, hp, ?_⟩
      have e1 : e.bs = wb p.1 p.2 false := (congrArg Prod.fst h1).symm
      have e2 : e.k = p.2 := (congrArg Prod.snd h1).symm
      rw [e1, e2] at hx
      exact (inP_bit (hv p hp).2).2 ((inP_bits (hv p hp).2).1 hx)
    · rintro ⟨p, hp, hx⟩
      have : maskIs p ∈ l.map maskIs := List.mem_map_of_mem hp
      rw [← h] at this
      obtain ⟨e, he, h1⟩ := List.mem_map.1 this
      refine ⟨e, he, ?_⟩
      have e1 : e.bs = wb p.1 p.2 false := congrArg Prod.fst h1
      have e2 : e.k = p.2 := congrArg Prod.snd h1
      rw [e1, e2]
      exact (inP_bits (hv p hp).2).2 ((inP_bit (hv p hp).2).1 hx)
theorem AggInv.perm {l : List (List UInt8 × Nat)} {es fs : List Pf} (h : AggInv l es) (hs : SortOf es fs) : AggInv l fs :=
  ⟨fun e he => h.v e (hs.1.subset he), fun x => by
    rw [← h.un x]
    exact ⟨fun ⟨e, he, hx⟩ => ⟨e, hs.1.subset he, hx⟩, fun ⟨e, he, hx⟩ => ⟨e, hs.1.symm.subset he, hx⟩⟩⟩
theorem two_cut {es : List Pf} {i : Nat} {p q : Pf} (hp : es[i]? = some p) (hq : es[i + 1]? = some q) : es = es.take i ++ p :: q :: es.drop (i + 2) := by
  obtain ⟨h1, rfl⟩ := List.getElem?_eq_some_iff.1 hp
  obtain ⟨h2, rfl⟩ := List.getElem?_eq_some_iff.1 hq
  rw [← List.drop_eq_getElem_cons h2, ← List.drop_eq_getElem_cons h1, List.take_append_drop]
theorem AggInv.drop {l : List (List UInt8 × Nat)} {es : List Pf} {i : Nat} {p q : Pf} (h : AggInv l es) (hs : es.Pairwise lePf) (hp : es[i]? = some p) (hq : es[i + 1]? = some q) (ho : ovP p.bs p.k q.bs q.k = true) : AggInv l (es.take (i + 1) ++ es.drop (i + 2)) := by
  have hc := two_cut hp hq
  have ht : es.take (i + 1) = es.take i ++ [p] := by rw [List.take_add_one, hp, Option.toList_some]
  have hk := ord_bits (h.v p (List.mem_of_getElem? hp)) (h.v q (List.mem_of_getElem? hq)) (sort_get hs hp hq (by omega)) ho
  have hm : ∀ e, e ∈ es ↔ e ∈ es.take (i + 1) ++ es.drop (i + 2) ∨ e = q := fun e => by
    constructor
    · intro he
      rw [hc] at he
      rw [ht]
      simp only [List.mem_append, List.mem_cons] at he ⊢
      grind
    · rintro (he | rfl)
      · rcases List.mem_append.1 he with he | he
        · exact List.mem_of_mem_take he
        · exact List.mem_of_mem_drop he
      · exact List.mem_of_getElem? hq
  refine ⟨fun e he => h.v e ((hm e).2 (.inl he)), fun x => ?_⟩
  rw [← h.un x]
  constructor
  · rintro ⟨e, he, hx⟩; exact ⟨e, (hm e).2 (.inl he), hx⟩
  · rintro ⟨e, he, hx⟩
    rcases (hm e).1 he with he | rfl
    · exact ⟨e, he, hx⟩
    · exact ⟨p, by rw [ht]; simp, ov_in ho hk hx⟩
theorem halves_in {p q : List UInt8} {k : Nat} (hl : p.length = q.length) (hk : k + 1 ≤ 8 * p.length) (hw : wb p k false = wb q k false) (ho : ovP p (k + 1) q (k + 1) = false) (x : List UInt8) : inP (wb p k false) k x = true ↔ inP p (k + 1) x = true ∨ inP q (k + 1) x = true := by
  have hlow : ∀ i < k, bitAt p i = bitAt q i := bits_of_top hl (by omega) (by have := (wb_top hl k).1 hw; rw [← hl]; exact this)
  have hne : bitAt p k ≠ bitAt q k := fun he => by
    have : ovP p (k + 1) q (k + 1) = true := (ovP_iff _ _ _ _).2 ⟨hl, by
      rw [Nat.min_self]
      have := top_of_bits hl (k := k + 1) (by omega) (fun i hi => by
        rcases Nat.lt_succ_iff_lt_or_eq.1 hi with h | h
        · exact hlow i h
        · rw [h]; exact he)
      rw [hl]
      exact this⟩
    rw [this] at ho
    cases ho
  rw [inP_bits (by omega), inP_bit hk, inP_bit (by omega)]
  constructor
  · rintro ⟨h1, h2⟩
    by_cases hx : bitAt x k = bitAt p k
    · refine .inl ⟨h1, fun i hi => ?_⟩
      rcases Nat.lt_succ_iff_lt_or_eq.1 hi with h | h
      · exact h2 i h
      · rw [h]; exact hx
    · refine .inr ⟨by rw [h1, hl], fun i hi => ?_⟩
      rcases Nat.lt_succ_iff_lt_or_eq.1 hi with h | h
      · rw [h2 i h]; exact hlow i h
      · rw [h]
        revert hx hne
        cases bitAt x k <;> cases bitAt p k <;> cases bitAt q k <;> simp
  · rintro (⟨h1, h2⟩ | ⟨h1, h2⟩)
    · exact ⟨h1, fun i hi => h2 i (by omega)⟩
    · exact ⟨by rw [h1, hl], fun i hi => by rw [h2 i (by omega)]; exact (hlow i hi).symm⟩
theorem AggInv.merge {l : List (List UInt8 × Nat)} {es : List Pf} {i k : Nat} {p q W : Pf} (h : AggInv l es) (hp : es[i]? = some p) (hq : es[i + 1]? = some q) (hpk : p.k = k + 1) (hqk : q.k = k + 1) (hl : p.bs.length = q.bs.length) (hw : wb p.bs k false = wb q.bs k false) (ho : ovP p.bs p.k q.bs q.k = false)
    (hWb : W.bs = wb p.bs k false) (hWk : W.k = k) : AggInv l (es.take i ++ [W] ++ es.drop (i + 2)) := by
  have hc := two_cut hp hq
  have hvp := h.v p (List.mem_of_getElem? hp)
  have hkp : k + 1 ≤ 8 * p.bs.length := by have := hvp.2; rw [← hpk]; exact this
  rw [hpk, hqk] at ho
  have hm : ∀ e, e ∈ es ↔ e ∈ es.take i ++ es.drop (i + 2) ∨ e = p ∨ e = q := fun e => by
    constructor
    · intro he
      rw [hc] at he
      simp only [List.mem_append, List.mem_cons] at he ⊢
      grind
    · rintro (he | rfl | rfl)
      · rcases List.mem_append.1 he with he | he
        · exact List.mem_of_mem_take he
        · exact List.mem_of_mem_drop he
      · exact List.mem_of_getElem? hp
      · exact List.mem_of_getElem? hq
  have hm2 : ∀ e, e ∈ es.take i ++ [W] ++ es.drop (i + 2) ↔ e ∈ es.take i ++ es.drop (i + 2) ∨ e = W := fun e => by
    simp only [List.mem_append, List.mem_singleton]
    grind
  refine ⟨fun e he => ?_, fun x => ?_⟩
  · rcases (hm2 e).1 he with he | rfl
    · exact h.v e ((hm e).2 (.inl he))
    · refine ⟨?_, ?_⟩
      · show isLen e.bs.length
        rw [hWb, wb_len]; exact hvp.1
      · show e.k ≤ 8 * e.bs.length
        rw [hWb, wb_len, hWk]; omega
  · rw [← h.un x]
    constructor
    · rintro ⟨e, he, hx⟩
      rcases (hm2 e).1 he with he | rfl
      · exact ⟨e, (hm e).2 (.inl he), hx⟩
      · rw [hWb, hWk] at hx
        rcases (halves_in hl hkp hw ho x).1 hx with h1 | h1
        · exact ⟨p, List.mem_of_getElem? hp, by rw [hpk]; exact h1⟩
        · exact ⟨q, List.mem_of_getElem? hq, by rw [hqk]; exact h1⟩
    · rintro ⟨e, he, hx⟩
      rcases (hm e).1 he with he | rfl | rfl
      · exact ⟨e, (hm2 e).2 (.inl he), hx⟩
      · exact ⟨W, (hm2 W).2 (.inr rfl), by rw [hWb, hWk]; exact (halves_in hl hkp hw ho x).2 (.inl (by rw [← hpk]; exact hx))⟩
      · exact ⟨W, (hm2 W).2 (.inr rfl), by rw [hWb, hWk]; exact (halves_in hl hkp hw ho x).2 (.inr (by rw [← hqk]; exact hx))⟩
theorem many_le_one {es : List Pf} (hd : ∀ (i t : Nat) a b, es[i]? = some a → es[t]? = some b → i < t → ovP a.bs a.k b.bs b.k = false) (x : List UInt8) : manyIn (es.map Pf.is) x ≤ 1 := by
  induction es with
  | nil => simp [manyIn]
  | cons y r ih =>
    have hc : manyIn ((y :: r).map Pf.is) x = manyIn (r.map Pf.is) x + if inP y.bs y.k x then 1 else 0 := by
      unfold manyIn; simp only [List.map_cons, List.countP_cons, Pf.is]
    rw [hc]
    cases hy : inP y.bs y.k x
    · have := ih (fun i t a b ha hb hit => hd (i + 1) (t + 1) a b (by simpa using ha) (by simpa using hb) (by omega))
      simp only [Bool.false_eq_true, if_false]
      omega
    · have h0 : manyIn (r.map Pf.is) x = 0 := by
        unfold manyIn
        rw [List.countP_eq_zero]
        intro p hp
        obtain ⟨e, he, rfl⟩ := List.mem_map.1 hp
        obtain ⟨t, ht⟩ := List.getElem?_of_mem he
        intro hx
        have h1 := hd 0 (t + 1) y e rfl (by simpa using ht) (by omega)
        rw [show ovP y.bs y.k e.bs e.k = true from ov_of hy hx] at h1
        cases h1
      rw [h0]
      simp
theorem many_pos (l : List (List UInt8 × Nat)) (x : List UInt8) : 0 < manyIn l x ↔ ∃ p ∈ l, inP p.1 p.2 x = true := by
  unfold manyIn
  exact List.countP_pos_iff
theorem AggInv.fin {l : List (List UInt8 × Nat)} {es : List Pf} (h : AggInv l es) (hs : es.Pairwise lePf) (hd : ∀ (i : Nat) a b, es[i]? = some a → es[i + 1]? = some b → ovP a.bs a.k b.bs b.k = false) (x : List UInt8) : manyIn (es.map Pf.is) x = if 0 < manyIn l x then 1 else 0 := by
  have hF : Filt es es.length es := ⟨by rw [List.take_length]; exact List.Sublist.refl _, hd⟩
  have h1 := many_le_one (fun i t a b ha hb hit => hF.far hs h.v ha hb hit) x
  have h2 : 0 < manyIn (es.map Pf.is) x ↔ 0 < manyIn l x := by
    rw [many_pos, many_pos, ← h.un x]
    constructor
    · rintro ⟨p, hp, hx⟩
      obtain ⟨e, he, rfl⟩ := List.mem_map.1 hp
      exact ⟨e, he, hx⟩
    · rintro ⟨e, he, hx⟩
      exact ⟨e.is, List.mem_map_of_mem he, hx⟩
  by_cases h3 : 0 < manyIn l x
  · rw [if_pos h3]
    have := h2.2 h3
    omega
  · rw [if_neg h3]
    rcases Nat.eq_zero_or_pos (manyIn (es.map Pf.is) x) with h4 | h4
    · exact h4
    · exact absurd (h2.1 h4) h3
def aggM : Value → Value → Nat
  | .slice _ n _, .bool true => n + 1
  | _, _ => 0
theorem RoomL.lt {B : Nat} {t : TypeId} {n g : Nat} {w : World} (h : Room B t n (.pointer (some ⟨g, 0, none⟩)) w) : g < w.heap.size := by
  obtain ⟨cs, -, -, h4⟩ := h.out
  exact h4.lt
theorem Blk.other {w : World} {g : Nat} {t : TypeId} {cs : Array Value} (h : Blk w g t cs) {g' : Nat} (hne : g ≠ g') (i : Nat) (u : Value) : Blk (w.setCell ⟨g', i, none⟩ u) g t cs := by
  unfold Blk
  rw [Below.heap_setCell _ _ _ _ hne]
  exact h
theorem rest5 {G : Prop} {X Y Z V U : Type} {K : X → Y → Z → V → U → Prop} (h : (∀ x y z v u, K x y z v u) → G) (rest : ∀ x y z v u, K x y z v u) : G := h rest
theorem pf_one (es : List Pf) : ∀ u ∈ pfCells es, u.oneCell' = true := by
  intro u hu
  unfold pfCells at hu
  rw [List.mem_flatMap] at hu
  obtain ⟨e, -, hu⟩ := hu
  unfold Pf.cells at hu
  simp only [List.mem_cons, List.not_mem_nil, or_false] at hu
  rcases hu with rfl | rfl | rfl <;> rfl
theorem add_at (g o t : Nat) : (⟨g, o, none⟩ : Addr).add t = ⟨g, o + t, none⟩ := by unfold Addr.add; split <;> simp_all
theorem part_take {w : World} {g o n : Nat} {es : List Pf} (h : RP w (some ⟨g, o, none⟩) n es) (hn : 0 < n) (b : Nat) : ∀ t u, (pfCells (es.take b))[t]? = some u → w.cell? ((⟨g, o, none⟩ : Addr).add t) = some u := by
  intro t u ht
  obtain ⟨g1, o1, hA, -, hc⟩ := h.2.1 (by rw [pfCells_len, h.1]; omega)
  injection hA with hA
  injection hA with h1 h2
  subst h1 h2
  rw [add_at]
  refine hc t u ?_
  have hlt := (List.getElem?_eq_some_iff.1 ht).1
  rw [← List.take_append_drop b es, pfCells_append, List.getElem?_append_left hlt]
  exact ht
theorem part_drop {w : World} {g o n : Nat} {es : List Pf} (h : RP w (some ⟨g, o, none⟩) n es) (hn : 0 < n) (b : Nat) (hb : b ≤ n) : ∀ t u, (pfCells (es.drop b))[t]? = some u → w.cell? ((⟨g, o + b * 3, none⟩ : Addr).add t) = some u := by
  intro t u ht
  obtain ⟨g1, o1, hA, -, hc⟩ := h.2.1 (by rw [pfCells_len, h.1]; omega)
  injection hA with hA
  injection hA with h1 h2
  subst h1 h2
  rw [add_at, Nat.add_assoc]
  refine hc (b * 3 + t) u ?_
  have hl : (pfCells (es.take b)).length = b * 3 := by rw [pfCells_len, List.length_take, h.1, Nat.min_eq_left hb]
  rw [← List.take_append_drop b es, pfCells_append, List.getElem?_append_right (by rw [hl]; omega), hl, Nat.add_sub_cancel_left]
  exact ht
set_option maxRecDepth 100000 in
set_option maxHeartbeats 64000000 in
theorem agg_walk (A : Option Addr) (n c : Nat) (es0 : List En) (B : Option Addr) (m d : Nat) (xs : List UInt8) (R : Option Addr) (rn rc : Nat) (rs : List UInt8) (z : ZP) (w : World) (hz : Zs w z) (hl : RS w A n es0) (hn : n ≤ 1048576) (hx : RB w B m xs) (hm : m ≤ 140737488355328)
    (hr : RB w R rn rs) (hR : R = none → rn = 0 ∧ rc = 0) (hrn : rn ≤ 140737488355328) :
    Calls Tryd.prog 16 #[.slice A n c, .slice B m d, .slice R rn rc] w (TrueW w) := by
  obtain ⟨i0, hi, hz0, hz1, hz2⟩ := info_parts infoPf
  have hval := madeZ_valid ((es0.map (·.bs)).zip xs)
  have hmlen : (madeZ ((es0.map (·.bs)).zip xs)).length ≤ n := Nat.le_trans (madeZ_len _) (by rw [List.length_zip, List.length_map, hl.1]; omega)
  go_enter Tryd.func16, Tryd.ntmps16
  go_wp2_with fail
  refine (made_c A n c es0 B m d xs w hl (by omega) hx (by omega)).mono ?_
  rintro e0 w1 ⟨v1, rfl, ⟨A1, c1, es, rfl, hown, hmap, hin⟩, hb1⟩
  rw [← hmap] at hval hmlen
  rw [List.length_map] at hmlen
  have hrp := RP.of_own hown rfl hin
  have hzA := hz.keep hb1
  have hv : ∀ e ∈ es, Vp e.is := fun e he => hval e.is (List.mem_map_of_mem he)
  obtain ⟨N, hN⟩ : ∃ N, N = es.length := ⟨_, rfl⟩
  have hme := masked_each A1 N c1 es z w1 hzA (by rw [hN]; exact hrp) hv (by omega)
  unfold MaskPost at hme
  rw [← hN] at hme hrp ⊢
  have HV := Lib.hid (And.intro hval hN)
  rw [← hN] at hmlen
  clear hown hmap hin hval hv hN
  go_wp2_with fail
  refine hme.mono ?_
  rintro e0 w2 ⟨A2, c2, gs, rfl, hown2, hmap2, hin2, hb2⟩
  have hlg : gs.length = N := by have := congrArg List.length hmap2; simp only [List.length_map] at this; rw [this]; exact HV.out.2.symm
  have hrp2 := mask_rp hown2 hlg hin2
  have hAI : AggInv (es.map Pf.is) gs := AggInv.start HV.out.1 hmap2
  have hbw := hb1.trans (hb2.mono hb1.size)
  have hz2' := hz.keep hbw
  have hr2 := hr.keep hbw
  have hrpL := hrp.keep hb2
  have HAI := Lib.hid (And.intro hAI hlg)
  clear hme hown2 hmap2 hin2 hAI hlg hb1 hb2 hzA hrp hz hl hx hr
  go_wp2_with fail
  refine (isAddress_c R rn rc w2).mono ?_
  rintro e0 w3 ⟨rfl, hb3⟩
  have hrp3 := hrp2.keep hb3
  have hrpL3 := hrpL.keep hb3
  have hz3 := hz2'.keep hb3
  have hr3 := hr2.keep hb3
  have hbw3 := hbw.trans (hb3.mono hbw.size)
  clear hrp2 hrpL hz2' hr2 hbw hb3
  by_cases hla : (rn == 4 || rn == 16) = true
  · rw [hla]
    clear hla
    go_wp2_with fail
    go_loopw [8, 9] (fun v a wr => ∃ (A7 : Option Addr) (M c7 : Nat) (es' : List Pf) (b : Bool), v = .slice A7 M c7 ∧ a = .bool b ∧ RP wr A7 M es' ∧ M ≤ N ∧ AggInv (es.map Pf.is) es' ∧ (b = false → es'.Pairwise lePf ∧ ∀ (i : Nat) a b, es'[i]? = some a → es'[i + 1]? = some b → ovP a.bs a.k b.bs b.k = false) ∧ Below w3.heap.size w3 wr) (fun v a _ => aggM v a)
    case atStart => exact ⟨A2, N, c2, gs, true, rfl, rfl, hrp3, Nat.le_refl _, HAI.out.1, fun h => (by cases h), Below.refl _ _⟩
    case round =>
      obtain ⟨A7, M, c7, es', b, rfl, rfl, hRP, hMN, hInv, hfin, hbb⟩ := hrel
      have HI := Lib.hid (And.intro hInv hfin)
      clear hInv hfin
      cases b
      · have hF := HI.out.1.fin (HI.out.2 rfl).1 (HI.out.2 rfl).2 rs
        have HF := Lib.hid hF
        have hvv := HI.out.1.v
        have hzr := hz3.keep hbb
        have hrr := hr3.keep hbb
        have hrpl := hrpL3.keep hbb
        have hb0 := hbw3.trans (hbb.mono hbw3.size)
        clear hF
        go_wp2_with fail
        refine (howMany_c A7 R M rn c7 rc es' rs z wr hzr hRP hvv (by omega) hrr hR hrn).mono ?_
        rintro e1 w5 ⟨rfl, hb5⟩
        rw [HF.out]
        have hz5 := hzr.keep hb5
        have hr5 := hrr.keep hb5
        have hrpl5 := hrpl.keep hb5
        have hb05 := hb0.trans (hb5.mono hb0.size)
        have hvl : ∀ e ∈ es, Vp e.is := fun e he => HV.out.1 e.is (List.mem_map_of_mem he)
        have k1 := howMany_c A1 R N rn c1 rc es rs z w5 hz5 hrpl5 hvl (by omega) hr5 hR hrn
        clear HF hzr hrr hrpl hb0 hvv
        by_cases hmm : 0 < manyIn (es.map Pf.is) rs
        · rw [if_pos hmm]
          have d1 : decide ((0 : Int) < (manyIn (es.map Pf.is) rs : Int)) = true := by simp; omega
          obtain ⟨x, hx⟩ : ∃ x, x = manyIn (es.map Pf.is) rs := ⟨_, rfl⟩
          rw [← hx] at k1 d1 hmm
          clear hx
          go_wp2_with fail
          refine k1.mono ?_
          rintro e1 w6 ⟨rfl, hb6⟩
          have hb06 := hb05.trans (hb6.mono hb05.size)
          clear k1
          go_wp2
          go_returns
          exact ⟨rfl, hb06⟩
        · rw [if_neg hmm]
          have hm0 : manyIn (es.map Pf.is) rs = 0 := by omega
          rw [hm0] at k1
          go_wp2_with fail
          refine k1.mono ?_
          rintro e1 w6 ⟨rfl, hb6⟩
          have hb06 := hb05.trans (hb6.mono hb05.size)
          clear k1
          go_wp2
          go_returns
          exact ⟨rfl, hb06⟩
      · have hvv := HI.out.1.v
        have hzr := hz3.keep hbb
        have hso := sorted_c A7 M c7 es' z wr hzr hRP hvv (by omega)
        unfold SortPost at hso
        have hME := hRP.1
        rw [hME] at hso
        go_wp2_with fail
        refine hso.mono ?_
        rintro e1 w4 ⟨A4, c4, fs, rfl, hown4, hsort, hb4⟩
        have hlf : fs.length = M := by rw [hsort.1.length_eq]; exact hME
        have hrp4 : RP w4 A4 M fs := ⟨hlf, RC.of_own hown4, fun e he => ((hRP.2.2 e (hsort.1.subset he)).keep hb4)⟩
        have hcap : 0 < M → M ≤ c4 := fun h => by
          obtain ⟨g3, hA3, -, -⟩ := own_some hown4 h
          subst hA3
          obtain ⟨cur, -, h1, -, -, -⟩ := own_rowBlk hown4
          exact h1
        have hInv4 := HI.out.1.perm hsort
        have hb34 := hbb.trans (hb4.mono hbb.size)
        have HS := Lib.hid (And.intro hInv4 (And.intro hsort.2 (And.intro hlf hcap)))
        have hvf := hInv4.v
        have hz4 := hz3.keep hb34
        clear hso hown4 hsort hlf hInv4 hRP hvv hzr hME HI hcap hbb hb4
        clear es'
        obtain ⟨wo, hwo⟩ : ∃ wo, wo = wr := ⟨_, rfl⟩
        subst hwo
        go_wp2_with fail
        go_loopw [8, 9, 10] (fun v a i wr => v = .slice A4 M c4 ∧ a = .bool false ∧ ∃ (j : Nat), (j < M ∨ j = 0) ∧ i = .int .i64 ((j + 1 : Nat) : Int) ∧ (∀ (t : Nat) a b, t < j → fs[t]? = some a → fs[t + 1]? = some b → ovP a.bs a.k b.bs b.k = false) ∧ Below w4.heap.size w4 wr) (fun _ _ i _ => M - (intOf i).toNat)
        case atStart => exact ⟨rfl, rfl, 0, .inr rfl, rfl, fun t a b h => absurd h (Nat.not_lt_zero t), Below.refl _ _⟩
        case round =>
          obtain ⟨rfl, rfl, j, hj, rfl, hno, hbb⟩ := hrel
          have HNO := Lib.hid hno
          clear hno
          by_cases hlt : j + 1 < M
          · obtain ⟨g, o, p, hA', hg, hpk, hc0, hc1, hc2, hbp⟩ := (hrp4.keep hbb).at (i := j) (by omega)
            subst hA'
            obtain ⟨g', o', q, hA', hg', hqk, hd0, hd1, hd2, hbq⟩ := (hrp4.keep hbb).at (i := j + 1) hlt
            injection hA' with hA'
            injection hA' with hA1 hA2
            subst hA1 hA2
            have hvp := hvf p (List.mem_of_getElem? hpk)
            have hvq := hvf q (List.mem_of_getElem? hqk)
            have hpn : p.n ≤ 16 ∧ isLen p.n := by rw [← hbp.1]; have h5 := hvp.1; unfold isLen at *; simp only [Pf.is] at h5; omega
            have hqn : q.n ≤ 16 ∧ isLen q.n := by rw [← hbq.1]; have h5 := hvq.1; unfold isLen at *; simp only [Pf.is] at h5; omega
            have hpk8 : p.k ≤ 8 * p.n := by rw [← hbp.1]; exact hvp.2
            have hqk8 : q.k ≤ 8 * q.n := by rw [← hbq.1]; exact hvq.2
            have hMc := HS.out.2.2.2 (by omega)
            have rE : ∀ w', Below wr.heap.size wr w' → w'.cell? ⟨g, o + j * 3, none⟩ = some (.slice p.a p.n p.c) ∧ w'.cell? ⟨g, o + j * 3 + 1, none⟩ = some (.string ⟨#[]⟩) ∧ w'.cell? ⟨g, o + j * 3 + 2, none⟩ = some (.int .i64 p.k) ∧ w'.cell? ⟨g, o + (j + 1) * 3, none⟩ = some (.slice q.a q.n q.c) ∧ w'.cell? ⟨g, o + (j + 1) * 3 + 1, none⟩ = some (.string ⟨#[]⟩) ∧ w'.cell? ⟨g, o + (j + 1) * 3 + 2, none⟩ = some (.int .i64 q.k) := fun w' hb =>
              ⟨(hb.cell (p := ⟨g, o + j * 3, none⟩) hg).trans hc0, (hb.cell (p := ⟨g, o + j * 3 + 1, none⟩) hg).trans hc1, (hb.cell (p := ⟨g, o + j * 3 + 2, none⟩) hg).trans hc2, (hb.cell (p := ⟨g, o + (j + 1) * 3, none⟩) hg).trans hd0, (hb.cell (p := ⟨g, o + (j + 1) * 3 + 1, none⟩) hg).trans hd1, (hb.cell (p := ⟨g, o + (j + 1) * 3 + 2, none⟩) hg).trans hd2⟩
            have q1 : (0 : Int) ≤ j ∧ (j : Int) < M := by omega
            have q2 : (0 : Int) ≤ (j : Int) + 1 ∧ (j : Int) + 1 < M := by omega
            have q3 : ((j : Int) + 1).toNat = j + 1 := by omega
            have q4 : IntKind.i64.wrap (j : Int) = j := by rw [IntKind.wrap_i64]; omega
            have q5 : (j : Int) + 1 ≤ M := by omega
            have q6 : IntKind.i64.wrap ((j : Int) + 1 + 1) = (j : Int) + 1 + 1 := by rw [IntKind.wrap_i64]; omega
            have HQ := Lib.hid (And.intro q1 (And.intro q2 (And.intro q3 (And.intro q4 (And.intro q5 q6)))))
            have hdr : Below wr.heap.size wr wr.drew := ⟨rfl, rfl, rfl, Nat.le_refl _, fun _ _ => rfl⟩
            have HPQ := Lib.hid (And.intro hpk hqk)
            clear hc0 hc1 hc2 hd0 hd1 hd2 hpk hqk q1 q2 q3 q4 q5 q6
            go_upto_region 12 with fail
            refine region_pick (Below wr.heap.size wr) [(0, false, none), (1, false, none), (2, false, none), (3, false, none), (4, false, none), (5, false, none), (6, false, none), (7, false, none), (8, false, none), (9, true, some 10), (11, true, none), (12, true, none)] 13 (by kernel_rfl) (by kernel_rfl) (fun w w' h hb => h.trans (hb.mono h.size)) (hdr) ?_
            simp only [pickOps, List.getElem?_cons_zero, List.getElem?_cons_succ]
            repeat (first | (refine t_skip rfl ?_; (simp only [Act.put, List.setIfInBounds_toArray, List.set_cons_zero, List.set_cons_succ])) | (refine t_run ?_ rfl (fun w1 hw1 => ?_) ?_; rotate_left; (have r0 := (rE w1 hw1).1; have r1 := (rE w1 hw1).2.1; have r2 := (rE w1 hw1).2.2.1; have r3 := (rE w1 hw1).2.2.2.1; have r4 := (rE w1 hw1).2.2.2.2.1; have r5 := (rE w1 hw1).2.2.2.2.2; have r6 := HQ.out.1; have r7 := HQ.out.2.1; have r8 := HQ.out.2.2.1; have r9 := HQ.out.2.2.2.1; go_simp; try (with_reducible rfl)); (simp only [Act.put, List.setIfInBounds_toArray, List.set_cons_zero, List.set_cons_succ])))
            refine t_pair (fun v w' => Room wr.heap.size 29 3 v w') (fun v w' => Room wr.heap.size 29 3 v w') (fun u v w' => Room wr.heap.size 29 3 u w' ∧ Room wr.heap.size 29 3 v w' ∧ v ≠ u) (by rfl) (by rfl) (fun v w w' h hb => h.keep hb) (fun v w w' h hb => h.keep hb) (fun u v w w' h hb => ⟨h.1.keep hb, h.2.1.keep hb, h.2.2⟩) (fun u v w h => ⟨h.1, h.2.1⟩) (fun w1 hw1 => ?_) (fun w1 hw1 => ?_) (fun u w1 hw1 hu => ?_) (fun v w1 hw1 hv => ?_) ?_
            · refine tAt_new ?_ ?_ ?_ ?_ ?_
              rotate_left 2
              (go_simp; first | (refine ⟨?_, ?_⟩ <;> with_reducible rfl) | with_reducible rfl)
              exact Room.new w1 _ _ #[.slice none 0 0, .string ⟨#[]⟩, .int .i64 0] hw1.size
              exact (Below.refl _ _).alloc (Nat.le_refl _) _
            · refine tAt_new ?_ ?_ ?_ ?_ ?_
              rotate_left 2
              (go_simp; first | (refine ⟨?_, ?_⟩ <;> with_reducible rfl) | with_reducible rfl)
              exact Room.new w1 _ _ #[.slice none 0 0, .string ⟨#[]⟩, .int .i64 0] hw1.size
              exact (Below.refl _ _).alloc (Nat.le_refl _) _
            · refine tAt_new ?_ ?_ ?_ ?_ ?_
              rotate_left 2
              (go_simp; first | (refine ⟨?_, ?_⟩ <;> with_reducible rfl) | with_reducible rfl)
              exact ⟨hu.keep ((Below.refl _ _).alloc (Nat.le_refl _) _), Room.new w1 _ _ #[.slice none 0 0, .string ⟨#[]⟩, .int .i64 0] hw1.size, fun h => by
                obtain ⟨g1, cs, rfl, -, -, hb1⟩ := hu
                have h5 := hb1.lt
                injection h with h; injection h with h; injection h with h; omega⟩
              exact (Below.refl _ _).alloc (Nat.le_refl _) _
            · refine tAt_new ?_ ?_ ?_ ?_ ?_
              rotate_left 2
              (go_simp; first | (refine ⟨?_, ?_⟩ <;> with_reducible rfl) | with_reducible rfl)
              exact ⟨Room.new w1 _ _ #[.slice none 0 0, .string ⟨#[]⟩, .int .i64 0] hw1.size, hv.keep ((Below.refl _ _).alloc (Nat.le_refl _) _), fun h => by
                obtain ⟨g1, cs, rfl, -, -, hb1⟩ := hv
                have h5 := hb1.lt
                injection h with h; injection h with h; injection h with h; omega⟩
              exact (Below.refl _ _).alloc (Nat.le_refl _) _
            rintro u v ⟨-, -, ⟨gP, -, rfl, -, -, -⟩, ⟨gQ, -, rfl, -, -, -⟩, -⟩
            (simp only [Act.put, List.setIfInBounds_toArray, List.set_cons_zero, List.set_cons_succ])
            refine t_store (fun w' => Blk w' gP 29 #[.slice p.a p.n p.c, .string ⟨#[]⟩, .int .i64 p.k]) (by rfl) (fun w w' h hb => h.below hb) (fun w1 hw1 => ?_) ?_
            · obtain ⟨hB, hRp, hRq, hne⟩ := hw1
              obtain ⟨cs, hBP, hsz, hblk⟩ := hRp.out
              obtain ⟨x0, x1, x2, rfl⟩ := size3 hsz
              obtain ⟨cs', hBQ, hsz', hblkq⟩ := hRq.out
              have hgne : gQ ≠ gP := fun h => hne (by rw [h])
              have r0 := hblk.cell
              have f0 := hblk.free
              have l0 := hblk.lt
              have hset := ((hblk.set 0 (.slice p.a p.n p.c)).set 1 (.string ⟨#[]⟩)).set 2 (.int .i64 p.k)
              simp only [List.setIfInBounds_toArray, List.set_cons_zero, List.set_cons_succ] at hset
              have hb' := ((hB.setCell (p := ⟨gP, 0, none⟩) hBP (.slice p.a p.n p.c)).setCell (p := ⟨gP, 1, none⟩) hBP (.string ⟨#[]⟩)).setCell (p := ⟨gP, 2, none⟩) hBP (.int .i64 p.k)
              have hq' := ((hblkq.other hgne 0 (.slice p.a p.n p.c)).other hgne 1 (.string ⟨#[]⟩)).other hgne 2 (.int .i64 p.k)
              have HSS := Lib.hid (And.intro hset (And.intro hb' hq'))
              clear hset hb' hq' hblk hblkq hB hRp hRq rE
              refine ⟨_, ?_, HSS.out.1, HSS.out.2.1, ⟨gP, _, rfl, hBP, rfl, HSS.out.1⟩, ⟨gQ, _, rfl, hBQ, hsz', HSS.out.2.2⟩, hne⟩
              go_simp
            intro _
            (simp only [Act.put])
            refine t_store (fun w' => Blk w' gQ 29 #[.slice q.a q.n q.c, .string ⟨#[]⟩, .int .i64 q.k]) (by rfl) (fun w w' h hb => h.below hb) (fun w1 hw1 => ?_) ?_
            · obtain ⟨⟨hB, hRp, hRq, hne⟩, hblkP⟩ := hw1
              obtain ⟨cs, hBP, hsz, -⟩ := hRp.out
              obtain ⟨cs', hBQ, hsz', hblk⟩ := hRq.out
              obtain ⟨x0, x1, x2, rfl⟩ := size3 hsz'
              have hgne : gP ≠ gQ := fun h => hne (by rw [h])
              have r0 := hblk.cell
              have f0 := hblk.free
              have l0 := hblk.lt
              have hset := ((hblk.set 0 (.slice q.a q.n q.c)).set 1 (.string ⟨#[]⟩)).set 2 (.int .i64 q.k)
              simp only [List.setIfInBounds_toArray, List.set_cons_zero, List.set_cons_succ] at hset
              have hb' := ((hB.setCell (p := ⟨gQ, 0, none⟩) hBQ (.slice q.a q.n q.c)).setCell (p := ⟨gQ, 1, none⟩) hBQ (.string ⟨#[]⟩)).setCell (p := ⟨gQ, 2, none⟩) hBQ (.int .i64 q.k)
              have hp' := ((hblkP.other hgne 0 (.slice q.a q.n q.c)).other hgne 1 (.string ⟨#[]⟩)).other hgne 2 (.int .i64 q.k)
              have HSS := Lib.hid (And.intro hset (And.intro hb' hp'))
              clear hset hb' hp' hblk hblkP hB hRp hRq rE
              refine ⟨_, ?_, HSS.out.1, ⟨HSS.out.2.1, ⟨gP, _, rfl, hBP, rfl, HSS.out.2.2⟩, ⟨gQ, _, rfl, hBQ, rfl, HSS.out.1⟩, hne⟩, HSS.out.2.2⟩
              go_simp
            intro _
            (simp only [Act.put])
            intro w5 ⟨⟨⟨hb5, _, _, _⟩, hbP5⟩, hbQ5⟩
            simp only [List.drop_succ_cons, List.drop_zero]
            have hb45 := hbb.trans (hb5.mono hbb.size)
            have hz5 := hz4.keep hb45
            have hbp5 := hbp.keep hb5
            have hbq5 := hbq.keep hb5
            have cP := hbP5.cell
            have cQ := hbQ5.cell
            have hrp5 := hrp4.keep hb45
            clear rE hdr hbp hbq hb5 hbb
            go_wp2_with fail
            refine (overlaps_c p.a q.a p.n q.n p.c q.c p.bs q.bs p.k q.k z w5 hz5 hbp5 hbq5 hvp.1 hvp.2 hvq.1 hvq.2).mono ?_
            rintro e1 w6 ⟨rfl, hb6⟩
            have hb46 := hb45.trans (hb6.mono hb45.size)
            have hbP6 := hbP5.below hb6
            have hbQ6 := hbQ5.below hb6
            have hbp6 := hbp5.keep hb6
            have hbq6 := hbq5.keep hb6
            have hrp6 := hrp5.keep hb6
            obtain ⟨y, hy⟩ : ∃ y, y = ovP p.bs p.k q.bs q.k := ⟨_, rfl⟩
            rw [← hy]
            have HY := Lib.hid hy
            clear cP cQ hbP5 hbQ5 hbp5 hbq5 hrp5 hb45 hz5 hb6 hy
            cases y
            · have hnx : ∀ (t : Nat) a b, t < j + 1 → fs[t]? = some a → fs[t + 1]? = some b → ovP a.bs a.k b.bs b.k = false := fun t a b ht ha hb => by
                rcases Nat.lt_succ_iff_lt_or_eq.1 ht with h | h
                · exact HNO.out t a b h ha hb
                · subst h
                  rw [HPQ.out.1] at ha
                  rw [HPQ.out.2] at hb
                  injection ha with ha
                  injection hb with hb
                  subst ha hb
                  exact HY.out.symm
              have HNX := Lib.hid hnx
              have hdr : Below w6.heap.size w6 w6.drew := ⟨rfl, rfl, rfl, Nat.le_refl _, fun _ _ => rfl⟩
              have lP := hbP6.lt
              have lQ := hbQ6.lt
              have rP : ∀ w', Below w6.heap.size w6 w' → ∀ i, w'.cell? ⟨gP, i, none⟩ = #[Value.slice p.a p.n p.c, .string ⟨#[]⟩, .int .i64 p.k][i]? := fun w' h i => (h.cell (p := ⟨gP, i, none⟩) lP).trans (hbP6.cell i)
              have rQ : ∀ w', Below w6.heap.size w6 w' → ∀ i, w'.cell? ⟨gQ, i, none⟩ = #[Value.slice q.a q.n q.c, .string ⟨#[]⟩, .int .i64 q.k][i]? := fun w' h i => (h.cell (p := ⟨gQ, i, none⟩) lQ).trans (hbQ6.cell i)
              clear hnx lP lQ
              by_cases hk1 : p.k = q.k
              · have d1 : ((p.k : Int) == q.k) = true ∧ (p.k == q.k) = true := by simp; omega
                have D1 := Lib.hid d1
                clear d1
                by_cases hk2 : 0 < p.k
                · have d2 : decide ((0 : Int) < (p.k : Int)) = true ∧ decide (0 < p.k) = true ∧ (0 : Int) < p.k := by simp; omega
                  have D2 := Lib.hid d2
                  clear d2
                  by_cases hk3 : p.n = q.n
                  · have d3 : ((p.n : Int) == q.n) = true ∧ (p.n == q.n) = true := by simp; omega
                    have D3 := Lib.hid d3
                    obtain ⟨k, hk⟩ : ∃ k, p.k = k + 1 := ⟨p.k - 1, by omega⟩
                    have d4 : IntKind.i64.wrap ((p.k : Int) - 1) = (k : Int) := by rw [IntKind.wrap_i64]; omega
                    have D4 := Lib.hid d4
                    have HKK := Lib.hid (And.intro hk (And.intro hk1 hk3))
                    have hkp : k ≤ 8 * p.n := by omega
                    have hkq : k ≤ 8 * q.n := by omega
                    have kE := fun w' g9 c9 g10 c10 h1 h2 => equal_c (some ⟨g9, 0, none⟩) (some ⟨g10, 0, none⟩) p.n q.n c9 c10 (wb p.bs k false) (wb q.bs k false) w' h1 h2 (by omega)
                    obtain ⟨x, hx⟩ : ∃ x, x = decide (wb p.bs k false = wb q.bs k false) := ⟨_, rfl⟩
                    simp only [← hx] at kE
                    have HXX := Lib.hid hx
                    clear d3 d4 hk hk1 hk2 hk3 hx
                    go_upto_region 16 with fail
                    refine region_pick (Below w6.heap.size w6) [(0, false, none), (1, false, none), (2, false, none), (3, false, none), (4, false, none), (5, false, none), (6, false, none), (7, false, none), (8, false, none), (9, false, none), (10, false, none), (11, false, none), (12, false, none), (13, false, none), (14, false, none), (15, false, none), (16, false, none), (17, false, none), (18, false, none), (19, false, none), (20, false, none), (21, false, none), (22, false, none), (23, false, none), (24, false, none), (25, false, none), (26, false, none), (27, false, none), (29, false, none), (30, false, none), (31, false, none), (32, false, none), (33, false, none), (34, false, none), (28, true, none), (35, true, none), (36, false, none), (37, false, none)] 38 (by kernel_rfl) (by kernel_rfl) (fun w w' h hb => h.trans (hb.mono h.size)) (hdr) ?_
                    simp only [pickOps, List.getElem?_cons_zero, List.getElem?_cons_succ]
                    repeat (first | (refine t_skip rfl ?_; (simp only [Act.put, List.setIfInBounds_toArray, List.set_cons_zero, List.set_cons_succ])) | (refine t_run ?_ rfl (fun w1 hw1 => ?_) ?_; rotate_left; (have r0 := rP w1 hw1; have r1 := rQ w1 hw1; have r2 := D1.out.1; have r3 := D1.out.2; have r4 := D2.out.1; have r5 := D2.out.2.1; have r6 := D2.out.2.2; have r7 := D3.out.1; have r8 := D3.out.2; have r9 := D4.out; go_simp; try (with_reducible rfl)); (simp only [Act.put, List.setIfInBounds_toArray, List.set_cons_zero, List.set_cons_succ])))
                    refine t_fresh ?_ ?_ (fun v w' => OwnB 0 p.n (wb p.bs k false) v w') (by rfl) (fun w1 hw1 => ?_) (fun v w w' h hb => h.keep hb) (fun w1 hw1 => ?_) ?_
                    rotate_left 2
                    (go_simp; refine ⟨?_, ?_⟩ <;> with_reducible rfl)
                    (go_at_call 36; (with_reducible refine (withBits_c p.a p.n p.c p.bs k false w1 (hbp6.keep hw1) hpn.2 hkp).mono ?_); rintro e w2 ⟨v, rfl, ⟨g9, c9, rfl, hown9⟩, hb9⟩; exact ⟨_, rfl, ⟨g9, c9, rfl, own_mono hown9 (Nat.zero_le _)⟩, hb9⟩)
                    rintro v8 ⟨-, -, g9, c9, rfl, -⟩
                    (simp only [Act.put, List.setIfInBounds_toArray, List.set_cons_zero, List.set_cons_succ])
                    refine t_fresh ?_ ?_ (fun v w' => OwnB 0 q.n (wb q.bs k false) v w') (by rfl) (fun w1 hw1 => ?_) (fun v w w' h hb => h.keep hb) (fun w1 hw1 => ?_) ?_
                    rotate_left 2
                    (go_simp; refine ⟨?_, ?_⟩ <;> with_reducible rfl)
                    (go_at_call 36; (with_reducible refine (withBits_c q.a q.n q.c q.bs k false w1 (hbq6.keep hw1.1) hqn.2 hkq).mono ?_); rintro e w2 ⟨v, rfl, ⟨g10, c10, rfl, hown10⟩, hb10⟩; exact ⟨_, rfl, ⟨g10, c10, rfl, own_mono hown10 (Nat.zero_le _)⟩, hb10⟩)
                    rintro v9 ⟨-, -, g10, c10, rfl, -⟩
                    (simp only [Act.put, List.setIfInBounds_toArray, List.set_cons_zero, List.set_cons_succ])
                    repeat (first | (refine t_skip rfl ?_; (simp only [Act.put, List.setIfInBounds_toArray, List.set_cons_zero, List.set_cons_succ])) | (refine t_run ?_ rfl (fun w1 hw1 => ?_) ?_; rotate_left; (go_simp; try (with_reducible rfl)); (simp only [Act.put, List.setIfInBounds_toArray, List.set_cons_zero, List.set_cons_succ])) | (refine t_call ?_ ?_ ?_ rfl (fun w1 hw1 => ?_) (fun w1 hw1 => ?_) ?_; rotate_left 3; (go_simp; refine ⟨?_, ?_⟩ <;> with_reducible rfl); (first | (go_at_call 35; (with_reducible refine (kE w1 g9 c9 g10 c10 (RB.of_own hw1.1.2.own) (RB.of_own hw1.2.own)).mono ?_); rintro e w2 ⟨rfl, hb⟩; refine ⟨?_, hb⟩; with_reducible rfl) | (go_at_call 35; (refine (kE w1 g9 c9 g10 c10 (RB.of_own hw1.1.2.own) (RB.of_own hw1.2.own)).mono ?_); rintro e w2 ⟨rfl, hb⟩; refine ⟨?_, hb⟩; with_reducible rfl)); (simp only [Act.put, List.setIfInBounds_toArray, List.set_cons_zero, List.set_cons_succ])))
                    intro w7 ⟨⟨hw7, _⟩, _⟩
                    simp only [List.drop_succ_cons, List.drop_zero]
                    have hb47 := hb46.trans (hw7.mono hb46.size)
                    have hbP7 := hbP6.below hw7
                    have hbp7 := hbp6.keep hw7
                    have hrp7 := hrp6.keep hw7
                    clear rP rQ hdr kE hbP6 hbQ6 hbp6 hbq6 hrp6 hb46 hw7
                    cases x
                    · skip
                      go_wp2
                      go_roundw
                      case rel => exact ⟨rfl, rfl, j + 1, .inl (by omega), by go_num, HNX.out, hb47⟩
                      case measure => simp [intOf]; omega
                    · skip
                      have hwE : wb p.bs k false = wb q.bs k false := by have := HXX.out; simpa using this.symm
                      have hInvM : ∀ W : Pf, W.bs = wb p.bs k false → W.k = k → AggInv (es.map Pf.is) (fs.take j ++ [W] ++ fs.drop (j + 2)) := fun W h1 h2 =>
                        HS.out.1.merge HPQ.out.1 HPQ.out.2 HKK.out.1 (by rw [← HKK.out.2.1]; exact HKK.out.1) (by have h3 := (hrp7.2.2 p (List.mem_of_getElem? HPQ.out.1)).1; have h4 := (hrp7.2.2 q (List.mem_of_getElem? HPQ.out.2)).1; rw [h3, h4]; exact HKK.out.2.2) hwE HY.out.symm h1 h2
                      have HINV := Lib.hid hInvM
                      have hdr : Below w7.heap.size w7 w7.drew := ⟨rfl, rfl, rfl, Nat.le_refl _, fun _ _ => rfl⟩
                      have lP := hbP7.lt
                      have rP : ∀ w', Below w7.heap.size w7 w' → ∀ i, w'.cell? ⟨gP, i, none⟩ = #[Value.slice p.a p.n p.c, .string ⟨#[]⟩, .int .i64 p.k][i]? := fun w' h i => (h.cell (p := ⟨gP, i, none⟩) lP).trans (hbP7.cell i)
                      clear hwE hInvM lP
                      go_upto_region 17 with fail
                      refine region_tree (Below w7.heap.size w7) (.q 0 (.q 1 (.q 2 (.q 3 (.q 4 (.q 5 (.q 8 (.q 9 (.q 10 (.two 6 (.two 7 (.q 11 (.f 12 (.f 13 .nil))) 12 (.f 7 (.q 11 (.f 13 .nil)))) 12 (.f 6 (.f 7 (.q 11 (.f 13 .nil)))))))))))))) 14 (by kernel_rfl) (by kernel_rfl) (fun w w' h hb => h.trans (hb.mono h.size)) hdr ?_
                      apply rest5
                      · intro REST
                        refine o_run (k := 0) (by simp only [List.getElem?_toArray, List.getElem?_cons_zero]; rfl) ?_ (by rfl) (fun w1 hw1 => ?_) ?_
                        rotate_left
                        (have r0 := rP w1 hw1; have r1 := D4.out; go_simp; try (with_reducible rfl))
                        (simp only [Act.put, List.setIfInBounds_toArray, List.set_cons_zero, List.set_cons_succ])
                        refine o_run (k := 1) (by simp only [List.getElem?_toArray, List.getElem?_cons_succ, List.getElem?_cons_zero]; rfl) ?_ (by rfl) (fun w1 hw1 => ?_) ?_
                        rotate_left
                        (have r0 := rP w1 hw1; have r1 := D4.out; go_simp; try (with_reducible rfl))
                        (simp only [Act.put, List.setIfInBounds_toArray, List.set_cons_zero, List.set_cons_succ])
                        refine o_run (k := 2) (by simp only [List.getElem?_toArray, List.getElem?_cons_succ, List.getElem?_cons_zero]; rfl) ?_ (by rfl) (fun w1 hw1 => ?_) ?_
                        rotate_left
                        (have r0 := rP w1 hw1; have r1 := D4.out; go_simp; try (with_reducible rfl))
                        (simp only [Act.put, List.setIfInBounds_toArray, List.set_cons_zero, List.set_cons_succ])
                        refine o_run (k := 3) (by simp only [List.getElem?_toArray, List.getElem?_cons_succ, List.getElem?_cons_zero]; rfl) ?_ (by rfl) (fun w1 hw1 => ?_) ?_
                        rotate_left
                        (have r0 := rP w1 hw1; have r1 := D4.out; go_simp; try (with_reducible rfl))
                        (simp only [Act.put, List.setIfInBounds_toArray, List.set_cons_zero, List.set_cons_succ])
                        refine o_run (k := 4) (by simp only [List.getElem?_toArray, List.getElem?_cons_succ, List.getElem?_cons_zero]; rfl) ?_ (by rfl) (fun w1 hw1 => ?_) ?_
                        rotate_left
                        (have r0 := rP w1 hw1; have r1 := D4.out; go_simp; try (with_reducible rfl))
                        (simp only [Act.put, List.setIfInBounds_toArray, List.set_cons_zero, List.set_cons_succ])
                        refine o_run (k := 5) (by simp only [List.getElem?_toArray, List.getElem?_cons_succ, List.getElem?_cons_zero]; rfl) ?_ (by rfl) (fun w1 hw1 => ?_) ?_
                        rotate_left
                        (have r0 := rP w1 hw1; have r1 := D4.out; go_simp; try (with_reducible rfl))
                        (simp only [Act.put, List.setIfInBounds_toArray, List.set_cons_zero, List.set_cons_succ])
                        refine o_run (k := 8) (by simp only [List.getElem?_toArray, List.getElem?_cons_succ, List.getElem?_cons_zero]; rfl) ?_ (by rfl) (fun w1 hw1 => ?_) ?_
                        rotate_left
                        (have r0 := rP w1 hw1; have r1 := D4.out; go_simp; try (with_reducible rfl))
                        (simp only [Act.put, List.setIfInBounds_toArray, List.set_cons_zero, List.set_cons_succ])
                        refine o_run (k := 9) (by simp only [List.getElem?_toArray, List.getElem?_cons_succ, List.getElem?_cons_zero]; rfl) ?_ (by rfl) (fun w1 hw1 => ?_) ?_
                        rotate_left
                        (have r0 := rP w1 hw1; have r1 := D4.out; go_simp; try (with_reducible rfl))
                        (simp only [Act.put, List.setIfInBounds_toArray, List.set_cons_zero, List.set_cons_succ])
                        refine o_run (k := 10) (by simp only [List.getElem?_toArray, List.getElem?_cons_succ, List.getElem?_cons_zero]; rfl) ?_ (by rfl) (fun w1 hw1 => ?_) ?_
                        rotate_left
                        (have r0 := rP w1 hw1; have r1 := D4.out; go_simp; try (with_reducible rfl))
                        (simp only [Act.put, List.setIfInBounds_toArray, List.set_cons_zero, List.set_cons_succ])
                        refine o_two ?_ ?_
                        · skip
                          refine o_at (k := 6) (by simp only [List.getElem?_toArray, List.getElem?_cons_succ, List.getElem?_cons_zero]; rfl) (fun v w' => OwnB w7.heap.size p.n (wb p.bs k false) v w') (by rfl) (fun v w w' h hb => h.keep hb) (fun w1 hw1 => ?_) ?_
                          · refine tAt_call ?_ ?_ ?_ ?_
                            rotate_left 2
                            (go_simp; refine ⟨?_, ?_⟩ <;> with_reducible rfl)
                            (go_at_call 36; (with_reducible refine (withBits_c p.a p.n p.c p.bs k false w1 (hbp7.keep hw1) hpn.2 hkp).mono ?_); rintro e w2 ⟨v, rfl, ⟨g11, c11, rfl, hown11⟩, hb11⟩; exact ⟨_, rfl, ⟨g11, c11, rfl, own_mono hown11 (hw1).size⟩, hb11⟩)
                          rintro v6 ⟨-, -, g11, c11, rfl, -⟩
                          (simp only [Act.put, List.setIfInBounds_toArray, List.set_cons_zero, List.set_cons_succ])
                          refine o_two ?_ ?_
                          · skip
                            refine o_at (k := 7) (by simp only [List.getElem?_toArray, List.getElem?_cons_succ, List.getElem?_cons_zero]; rfl) (fun v w' => FreshOw w7.heap.size p.n (wb p.bs k false) v w') (by rfl) (fun v w w' h hb => h.keep hb) (fun w1 hw1 => ?_) ?_
                            · refine tAt_call ?_ ?_ ?_ ?_
                              rotate_left 2
                              (go_simp; refine ⟨?_, ?_⟩ <;> with_reducible rfl)
                              (go_at_call 24; (with_reducible refine (plain_c (some ⟨g11, 0, none⟩) p.n c11 (wb p.bs k false) w1 (RB.of_own (hw1.2).own) (by simp) (by omega)).mono ?_); rintro e w2 ⟨A12, c12, rfl, hown12, hb12⟩; exact ⟨_, rfl, ⟨A12, c12, rfl, own_mono hown12 (hw1.1).size⟩, hb12⟩)
                            rintro v7 ⟨-, -, A12, c12, rfl, -⟩
                            (simp only [Act.put, List.setIfInBounds_toArray, List.set_cons_zero, List.set_cons_succ])
                            refine o_run (k := 11) (by simp only [List.getElem?_toArray, List.getElem?_cons_succ, List.getElem?_cons_zero]; rfl) ?_ (by rfl) (fun w1 hw1 => ?_) ?_
                            rotate_left
                            (go_simp; try (with_reducible rfl))
                            (simp only [Act.put, List.setIfInBounds_toArray, List.set_cons_zero, List.set_cons_succ])
                            refine o_f ?_
                            refine o_at (k := 12) (by simp only [List.getElem?_toArray, List.getElem?_cons_succ, List.getElem?_cons_zero]; rfl) (fun v w' => Room w7.heap.size 29 3 v w') (by rfl) (fun v w w' h hb => h.keep hb) (fun w1 hw1 => ?_) ?_
                            · refine tAt_new ?_ ?_ ?_ ?_ ?_
                              rotate_left 2
                              (go_simp; first | (refine ⟨?_, ?_⟩ <;> with_reducible rfl) | with_reducible rfl)
                              exact Room.new w1 _ _ #[.slice none 0 0, .string ⟨#[]⟩, .int .i64 0] (hw1.1.1).size
                              exact (Below.refl _ _).alloc (Nat.le_refl _) _
                            rintro v12 ⟨-, -, gW, -, rfl, -, -, -⟩
                            (simp only [Act.put, List.setIfInBounds_toArray, List.set_cons_zero, List.set_cons_succ])
                            refine o_class (D := fun w' => Below w7.heap.size w7 w' ∧ OwnB w7.heap.size p.n (wb p.bs k false) (.slice (some ⟨g11, 0, none⟩) p.n c11) w' ∧ FreshOw w7.heap.size p.n (wb p.bs k false) (.agg #[.slice A12 p.n c12, .string ⟨#[]⟩]) w' ∧ Room w7.heap.size 29 3 (.pointer (some ⟨gW, 0, none⟩)) w') (fun w' => ⟨fun h => ⟨h.1.1.1, h.1.1.2, h.1.2, h.2⟩, fun h => ⟨⟨⟨h.1, h.2.1⟩, h.2.2.1⟩, h.2.2.2⟩⟩) ?_
                            exact REST g11 c11 A12 c12 gW
                          · skip
                            refine o_at (k := 12) (by simp only [List.getElem?_toArray, List.getElem?_cons_succ, List.getElem?_cons_zero]; rfl) (fun v w' => Room w7.heap.size 29 3 v w') (by rfl) (fun v w w' h hb => h.keep hb) (fun w1 hw1 => ?_) ?_
                            · refine tAt_new ?_ ?_ ?_ ?_ ?_
                              rotate_left 2
                              (go_simp; first | (refine ⟨?_, ?_⟩ <;> with_reducible rfl) | with_reducible rfl)
                              exact Room.new w1 _ _ #[.slice none 0 0, .string ⟨#[]⟩, .int .i64 0] (hw1.1).size
                              exact (Below.refl _ _).alloc (Nat.le_refl _) _
                            rintro v12 ⟨-, -, gW, -, rfl, -, -, -⟩
                            (simp only [Act.put, List.setIfInBounds_toArray, List.set_cons_zero, List.set_cons_succ])
                            refine o_f ?_
                            refine o_at (k := 7) (by simp only [List.getElem?_toArray, List.getElem?_cons_succ, List.getElem?_cons_zero]; rfl) (fun v w' => FreshOw w7.heap.size p.n (wb p.bs k false) v w') (by rfl) (fun v w w' h hb => h.keep hb) (fun w1 hw1 => ?_) ?_
                            · refine tAt_call ?_ ?_ ?_ ?_
                              rotate_left 2
                              (go_simp; refine ⟨?_, ?_⟩ <;> with_reducible rfl)
                              (go_at_call 24; (with_reducible refine (plain_c (some ⟨g11, 0, none⟩) p.n c11 (wb p.bs k false) w1 (RB.of_own (hw1.1.2).own) (by simp) (by omega)).mono ?_); rintro e w2 ⟨A12, c12, rfl, hown12, hb12⟩; exact ⟨_, rfl, ⟨A12, c12, rfl, own_mono hown12 (hw1.1.1).size⟩, hb12⟩)
                            rintro v7 ⟨-, -, A12, c12, rfl, -⟩
                            (simp only [Act.put, List.setIfInBounds_toArray, List.set_cons_zero, List.set_cons_succ])
                            refine o_run (k := 11) (by simp only [List.getElem?_toArray, List.getElem?_cons_succ, List.getElem?_cons_zero]; rfl) ?_ (by rfl) (fun w1 hw1 => ?_) ?_
                            rotate_left
                            (go_simp; try (with_reducible rfl))
                            (simp only [Act.put, List.setIfInBounds_toArray, List.set_cons_zero, List.set_cons_succ])
                            refine o_class (D := fun w' => Below w7.heap.size w7 w' ∧ OwnB w7.heap.size p.n (wb p.bs k false) (.slice (some ⟨g11, 0, none⟩) p.n c11) w' ∧ FreshOw w7.heap.size p.n (wb p.bs k false) (.agg #[.slice A12 p.n c12, .string ⟨#[]⟩]) w' ∧ Room w7.heap.size 29 3 (.pointer (some ⟨gW, 0, none⟩)) w') (fun w' => ⟨fun h => ⟨h.1.1.1, h.1.1.2, h.2, h.1.2⟩, fun h => ⟨⟨⟨h.1, h.2.1⟩, h.2.2.2⟩, h.2.2.1⟩⟩) ?_
                            exact REST g11 c11 A12 c12 gW
                        · skip
                          refine o_at (k := 12) (by simp only [List.getElem?_toArray, List.getElem?_cons_succ, List.getElem?_cons_zero]; rfl) (fun v w' => Room w7.heap.size 29 3 v w') (by rfl) (fun v w w' h hb => h.keep hb) (fun w1 hw1 => ?_) ?_
                          · refine tAt_new ?_ ?_ ?_ ?_ ?_
                            rotate_left 2
                            (go_simp; first | (refine ⟨?_, ?_⟩ <;> with_reducible rfl) | with_reducible rfl)
                            exact Room.new w1 _ _ #[.slice none 0 0, .string ⟨#[]⟩, .int .i64 0] (hw1).size
                            exact (Below.refl _ _).alloc (Nat.le_refl _) _
                          rintro v12 ⟨-, -, gW, -, rfl, -, -, -⟩
                          (simp only [Act.put, List.setIfInBounds_toArray, List.set_cons_zero, List.set_cons_succ])
                          refine o_f ?_
                          refine o_at (k := 6) (by simp only [List.getElem?_toArray, List.getElem?_cons_succ, List.getElem?_cons_zero]; rfl) (fun v w' => OwnB w7.heap.size p.n (wb p.bs k false) v w') (by rfl) (fun v w w' h hb => h.keep hb) (fun w1 hw1 => ?_) ?_
                          · refine tAt_call ?_ ?_ ?_ ?_
                            rotate_left 2
                            (go_simp; refine ⟨?_, ?_⟩ <;> with_reducible rfl)
                            (go_at_call 36; (with_reducible refine (withBits_c p.a p.n p.c p.bs k false w1 (hbp7.keep hw1.1) hpn.2 hkp).mono ?_); rintro e w2 ⟨v, rfl, ⟨g11, c11, rfl, hown11⟩, hb11⟩; exact ⟨_, rfl, ⟨g11, c11, rfl, own_mono hown11 (hw1.1).size⟩, hb11⟩)
                          rintro v6 ⟨-, -, g11, c11, rfl, -⟩
                          (simp only [Act.put, List.setIfInBounds_toArray, List.set_cons_zero, List.set_cons_succ])
                          refine o_f ?_
                          refine o_at (k := 7) (by simp only [List.getElem?_toArray, List.getElem?_cons_succ, List.getElem?_cons_zero]; rfl) (fun v w' => FreshOw w7.heap.size p.n (wb p.bs k false) v w') (by rfl) (fun v w w' h hb => h.keep hb) (fun w1 hw1 => ?_) ?_
                          · refine tAt_call ?_ ?_ ?_ ?_
                            rotate_left 2
                            (go_simp; refine ⟨?_, ?_⟩ <;> with_reducible rfl)
                            (go_at_call 24; (with_reducible refine (plain_c (some ⟨g11, 0, none⟩) p.n c11 (wb p.bs k false) w1 (RB.of_own (hw1.2).own) (by simp) (by omega)).mono ?_); rintro e w2 ⟨A12, c12, rfl, hown12, hb12⟩; exact ⟨_, rfl, ⟨A12, c12, rfl, own_mono hown12 (hw1.1.1).size⟩, hb12⟩)
                          rintro v7 ⟨-, -, A12, c12, rfl, -⟩
                          (simp only [Act.put, List.setIfInBounds_toArray, List.set_cons_zero, List.set_cons_succ])
                          refine o_run (k := 11) (by simp only [List.getElem?_toArray, List.getElem?_cons_succ, List.getElem?_cons_zero]; rfl) ?_ (by rfl) (fun w1 hw1 => ?_) ?_
                          rotate_left
                          (go_simp; try (with_reducible rfl))
                          (simp only [Act.put, List.setIfInBounds_toArray, List.set_cons_zero, List.set_cons_succ])
                          refine o_class (D := fun w' => Below w7.heap.size w7 w' ∧ OwnB w7.heap.size p.n (wb p.bs k false) (.slice (some ⟨g11, 0, none⟩) p.n c11) w' ∧ FreshOw w7.heap.size p.n (wb p.bs k false) (.agg #[.slice A12 p.n c12, .string ⟨#[]⟩]) w' ∧ Room w7.heap.size 29 3 (.pointer (some ⟨gW, 0, none⟩)) w') (fun w' => ⟨fun h => ⟨h.1.1.1, h.1.2, h.2, h.1.1.2⟩, fun h => ⟨⟨⟨h.1, h.2.2.2⟩, h.2.1⟩, h.2.2.1⟩⟩) ?_
                          exact REST g11 c11 A12 c12 gW
                      intro g11 c11 A12 c12 gW
                      refine o_f (o_store (k := 13) (by simp only [List.getElem?_toArray, List.getElem?_cons_succ, List.getElem?_cons_zero]; rfl) (fun w' => Blk w' gW 29 #[.slice A12 p.n c12, .string ⟨#[]⟩, .int .i64 k]) (by rfl) (fun w w' h hb => h.below hb) (fun w1 hw1 => ?_) ?_)
                      · obtain ⟨hB, hF6, hF7, hRm⟩ := hw1
                        obtain ⟨cs, hBW, hsz, hblk⟩ := hRm.out
                        obtain ⟨x0, x1, x2, rfl⟩ := size3 hsz
                        have r0 := hblk.cell
                        have f0 := hblk.free
                        have l0 := hblk.lt
                        have s1 := hblk.set 0 (.slice A12 p.n c12)
                        have s2 := s1.set 1 (.string ⟨#[]⟩)
                        have hset := s2.set 2 (.int .i64 k)
                        simp only [List.setIfInBounds_toArray, List.set_cons_zero, List.set_cons_succ] at hset s1 s2
                        have hb' := ((hB.setCell (p := ⟨gW, 0, none⟩) hBW (.slice A12 p.n c12)).setCell (p := ⟨gW, 1, none⟩) hBW (.string ⟨#[]⟩)).setCell (p := ⟨gW, 2, none⟩) hBW (.int .i64 k)
                        have ho6 := own_set (own_set (own_set hF6.own hblk (by decide) 0 (.slice A12 p.n c12)) s1 (by decide) 1 (.string ⟨#[]⟩)) s2 (by decide) 2 (.int .i64 k)
                        have ho7 := own_set (own_set (own_set hF7.own hblk (by decide) 0 (.slice A12 p.n c12)) s1 (by decide) 1 (.string ⟨#[]⟩)) s2 (by decide) 2 (.int .i64 k)
                        have HSS := Lib.hid (And.intro hset (And.intro hb' (And.intro ho6 ho7)))
                        clear hset hb' ho6 ho7 hblk hB hF6 hF7 hRm s1 s2 rP
                        refine ⟨_, ?_, HSS.out.1, HSS.out.2.1, ⟨g11, c11, rfl, HSS.out.2.2.1⟩, ⟨A12, c12, rfl, HSS.out.2.2.2⟩, ⟨gW, _, rfl, hBW, rfl, HSS.out.1⟩⟩
                        go_simp
                      (simp only [Act.put])
                      refine o_nil ?_
                      intro w8 hw8
                      simp only [List.drop_succ_cons, List.drop_zero]
                      obtain ⟨⟨hB8, -, hF8, -⟩, hblkW⟩ := hw8
                      have hrW := RB.of_own hF8.own
                      have hb48 := hb47.trans (hB8.mono hb47.size)
                      have hbR : Below w3.heap.size w3 w8 := hb34.trans (hb48.mono hb34.size)
                      have hrp8 := hrp7.keep hB8
                      have lW := hblkW.lt
                      have rW : ∀ w', Below w8.heap.size w8 w' → ∀ i, w'.cell? ⟨gW, i, none⟩ = #[Value.slice A12 p.n c12, .string ⟨#[]⟩, .int .i64 k][i]? := fun w' h i => (h.cell (p := ⟨gW, i, none⟩) lW).trans (hblkW.cell i)
                      have hdr8 : Below w8.heap.size w8 w8.drew := ⟨rfl, rfl, rfl, Nat.le_refl _, fun _ _ => rfl⟩
                      have q7 : (j : Int) ≤ c4 ∧ (0 : Int) ≤ j := by omega
                      have q8 : (0 : Int) ≤ (j : Int) + 1 + 1 ∧ (j : Int) + 1 + 1 ≤ M := by omega
                      have q9 : ((j : Int) + 1 + 1).toNat = j + 2 := by omega
                      have q10 : ¬ c4 = 0 := by omega
                      have HQ2 := Lib.hid (And.intro q7 (And.intro q8 (And.intro q9 q10)))
                      have hl1 : (pfCells (fs.take j)).length = j * 3 := by rw [pfCells_len, List.length_take, hrp8.1, Nat.min_eq_left (by omega)]
                      have hl2 : (pfCells (fs.drop (j + 2))).length = (M - (j + 2)) * 3 := by rw [pfCells_len, List.length_drop, hrp8.1]
                      have HL1 := Lib.hid (And.intro hl1 hl2)
                      have hM0 : 0 < M := by omega
                      clear q7 q8 q9 q10 hl1 hl2 rP hdr hbP7 hbp7 hrp7 hB8 hF8 hb48 hb47 hblkW lW
                      by_cases hcc : c4 = j + 2
                      · have HCC := Lib.hid hcc
                        have hn2 : ∀ t u, (pfCells (fs.drop (j + 2)))[t]? = some u → ∀ w' : World, w'.cell? ((⟨g, o, none⟩ : Addr).add t) = some u := fun t u ht => by
                          rw [List.drop_eq_nil_of_le (by rw [hrp8.1]; omega)] at ht
                          simp [pfCells] at ht
                        have HN2 := Lib.hid hn2
                        clear hcc hn2
                        have HQX := Lib.hid (show (j : Int) ≤ (j : Int) + 2 ∧ (j : Int) ≤ ((j + 2 : Nat) : Int) ∧ (j : Int) ≤ 2 + (j : Int) by omega)
                        go_upto_region 18 with fail
                        refine region_pick (Below w8.heap.size w8) [(0, false, none), (1, false, none), (2, false, none), (3, false, none), (5, false, none), (8, false, none), (9, false, none), (10, false, none), (11, false, none), (4, true, some 6), (7, true, none)] 12 (by kernel_rfl) (by kernel_rfl) (fun w w' h hb => h.trans (hb.mono h.size)) (hdr8) ?_
                        simp only [pickOps, List.getElem?_cons_zero, List.getElem?_cons_succ]
                        repeat (first | (refine t_skip rfl ?_; (simp only [Act.put, List.setIfInBounds_toArray, List.set_cons_zero, List.set_cons_succ])) | (refine t_run ?_ rfl (fun w1 hw1 => ?_) ?_; rotate_left; (have r0 := rW w1 hw1; have r1 := HQ.out.1; have r2 := HQ.out.2.1; have r3 := HQ.out.2.2.1; have r4 := HQ.out.2.2.2.1; have r5 := HQ.out.2.2.2.2.1; have r6 := HQ.out.2.2.2.2.2; have r7 := HQ2.out.1; have r8 := HQ2.out.2.1; have r9 := HQ2.out.2.2.1; have r10 := HQ2.out.2.2.2; have r11 := HCC.out; have r12 := HQX.out.1; have r13 := HQX.out.2.1; have r14 := HQX.out.2.2; go_simp; try (with_reducible rfl)); (simp only [Act.put, List.setIfInBounds_toArray, List.set_cons_zero, List.set_cons_succ])))
                        refine t_pair (fun v w' => w'.ownsRow w8.heap.size 29 3 v j (pfCells (fs.take j))) (fun v w' => LitRow w8.heap.size 29 3 1 [.slice A12 p.n c12, .string ⟨#[]⟩, .int .i64 k] v w') (fun u v w' => w'.ownsRow w8.heap.size 29 3 u j (pfCells (fs.take j)) ∧ LitRow w8.heap.size 29 3 1 [.slice A12 p.n c12, .string ⟨#[]⟩, .int .i64 k] v w' ∧ v.ownBlock ≠ u.ownBlock) (by rfl) (by rfl) (fun v w w' h hb => own_below h hb) (fun v w w' h hb => h.keep hb) (fun u v w w' h hb => ⟨own_below h.1 hb, h.2.1.keep hb, h.2.2⟩) (fun u v w h => ⟨h.1, h.2.1⟩) (fun w1 hw1 => ?_) (fun w1 hw1 => ?_) (fun u w1 hw1 hu => ?_) (fun v w1 hw1 hv => ?_) ?_
                        · obtain ⟨v', w', hr', h2, h3, -⟩ := append_old (P := Tryd.prog) (w := w1) w8.heap.size 23 23 29 i0 (.agg #[.slice none 0 0, .string ⟨#[]⟩, .int .i64 0]) 3 48 Tryd.underlying23 hi hz0 hz1 hz2 rfl (by decide) (.slice none 0 0) 0 [] (World.ownsRow_nil _ _ _ _) ⟨g, o, none⟩ j c4 (pfCells (fs.take j)) HL1.out.1 (part_take (hrp8.keep hw1) hM0 j) (pf_one _) (by unfold maxLen; omega) (by omega) hw1.size
                          rw [Nat.zero_add, List.nil_append] at h2
                          exact tAt_new v' w' (append_op _ _ 23 rfl hr') h2 (below_grown h3 (Nat.le_refl _) (by intro g hg; cases hg))
                        · refine tAt_new ?_ ?_ ?_ ?_ ?_
                          rotate_left 2
                          (go_simp; first | (refine ⟨?_, ?_⟩ <;> with_reducible rfl) | with_reducible rfl)
                          exact ⟨_, rfl, own_lit w1 #[.slice A12 p.n c12, .string ⟨#[]⟩, .int .i64 k] _ 3 1 _ hw1.size rfl (by omega)⟩
                          exact (Below.refl _ _).alloc (Nat.le_refl _) _
                        · refine tAt_new ?_ ?_ ?_ ?_ ?_
                          rotate_left 2
                          (go_simp; first | (refine ⟨?_, ?_⟩ <;> with_reducible rfl) | with_reducible rfl)
                          exact ⟨own_below hu ((Below.refl _ _).alloc (Nat.le_refl _) _), ⟨_, rfl, own_lit w1 #[.slice A12 p.n c12, .string ⟨#[]⟩, .int .i64 k] _ 3 1 _ hw1.size rfl (by omega)⟩, fun h => by have := (hu.lt w1.heap.size h.symm).2; omega⟩
                          exact (Below.refl _ _).alloc (Nat.le_refl _) _
                        · obtain ⟨v', w', hr', h2, h3, -⟩ := append_old (P := Tryd.prog) (w := w1) w1.heap.size 23 23 29 i0 (.agg #[.slice none 0 0, .string ⟨#[]⟩, .int .i64 0]) 3 48 Tryd.underlying23 hi hz0 hz1 hz2 rfl (by decide) (.slice none 0 0) 0 [] (World.ownsRow_nil _ _ _ _) ⟨g, o, none⟩ j c4 (pfCells (fs.take j)) HL1.out.1 (part_take (hrp8.keep hw1) hM0 j) (pf_one _) (by unfold maxLen; omega) (by omega) (Nat.le_refl _)
                          rw [Nat.zero_add, List.nil_append] at h2
                          have hbg := below_grown h3 (Nat.le_refl _) (by intro g hg; cases hg)
                          exact tAt_new v' w' (append_op _ _ 23 rfl hr') ⟨own_mono h2 hw1.size, hv.keep hbg, fun h => by
                            obtain ⟨g2, rfl, ho⟩ := hv
                            have h4 := (ho.lt g2 rfl).2
                            have h5 := (h2.lt g2 h.symm).1
                            omega⟩ hbg
                        rintro u v ⟨w9, -, hu9, ⟨g13, rfl, -⟩, -⟩
                        obtain ⟨A13, c13, rfl⟩ := own_slice hu9
                        clear hu9
                        (simp only [Act.put, List.setIfInBounds_toArray, List.set_cons_zero, List.set_cons_succ])
                        refine t_change (fun v w' => w'.ownsRow w8.heap.size 29 3 v (j + 1) (pfCells (fs.take j ++ [(⟨A12, p.n, c12, wb p.bs k false, k⟩ : Pf)]))) (by rfl) (fun v w w' h hb => own_below h hb) (fun w1 hw1 => ?_) ?_
                        · obtain ⟨hb, hown1, hlit, hne⟩ := hw1
                          have hrow := hlit.own
                          obtain ⟨v', w', hr', h2, h3, h4⟩ := append_old (P := Tryd.prog) (w := w1) w8.heap.size 23 23 29 i0 (.agg #[.slice none 0 0, .string ⟨#[]⟩, .int .i64 0]) 3 48 Tryd.underlying23 hi hz0 hz1 hz2 rfl (by decide) (.slice A13 j c13) j (pfCells (fs.take j)) hown1 ⟨g13, 0, none⟩ 1 1 [.slice A12 p.n c12, .string ⟨#[]⟩, .int .i64 k] rfl (fun t u ht => by
                            obtain ⟨g14, hA14, -, hc14⟩ := own_some hrow (by omega)
                            injection hA14 with hA14
                            injection hA14 with hA14
                            subst hA14
                            rw [add_at, Nat.zero_add]
                            exact hc14 t u ht) (by intro u hu; simp at hu; rcases hu with rfl | rfl | rfl <;> rfl) (by unfold maxLen; omega) (by omega) hb.size
                          have hb' : Below w8.heap.size w8 w' := hb.grown h3 hb.size (own_row_ge hown1)
                          exact ⟨v', w', append_op _ _ 23 rfl hr', by rw [pfCells_append]; exact h2, hb', h4, ⟨g13, rfl, hrow.kept h3 (.inr hne)⟩, hne⟩
                        rintro v14 ⟨w14, -, hv14⟩
                        obtain ⟨A14, c14, rfl⟩ := own_slice hv14
                        clear hv14
                        (simp only [Act.put, List.setIfInBounds_toArray, List.set_cons_zero, List.set_cons_succ])
                        intro w10 ⟨⟨hb10, _, _, _⟩, hown10⟩
                        simp only [List.drop_succ_cons, List.drop_zero]
                        have HO10 := Lib.hid hown10
                        have hs10 := hb10.size
                        clear hown10 rW hdr8
                        go_wp2_with (at_builtin; refine wpList_append_own _ rfl _ _ 23 rfl w8.heap.size 29 i0 (.agg #[.slice none 0 0, .string ⟨#[]⟩, .int .i64 0]) 3 48 Tryd.underlying23 hi hz0 hz1 hz2 rfl (by decide) _ _ _ rfl HO10.out ⟨g, o, none⟩ _ _ (pfCells (fs.drop (j + 2))) rfl HL1.out.2 (fun t u ht => HN2.out t u ht w10) (pf_one _) (by unfold maxLen; omega) (by omega) hs10 ?_)
                        intro v15 w15 hown15 hgrow _
                        have hb815 : Below w8.heap.size w8 w15 := hb10.grown hgrow hb10.size (own_row_ge HO10.out)
                        obtain ⟨A15, c15, rfl⟩ := own_slice hown15
                        have hown15' : w15.ownsRow w8.heap.size 29 3 (.slice A15 (j + 1 + (M - (j + 2))) c15) (j + 1 + (M - (j + 2))) (pfCells (fs.take j ++ [(⟨A12, p.n, c12, wb p.bs k false, k⟩ : Pf)] ++ fs.drop (j + 2))) := by rw [pfCells_append]; exact hown15
                        have hrp15 : RP w15 A15 (j + 1 + (M - (j + 2))) (fs.take j ++ [(⟨A12, p.n, c12, wb p.bs k false, k⟩ : Pf)] ++ fs.drop (j + 2)) := ⟨by rw [List.length_append, List.length_append, List.length_take, List.length_drop, hrp8.1, Nat.min_eq_left (by omega)]; rfl, RC.of_own hown15', fun e he => by
                          rcases List.mem_append.1 he with he | he
                          · rcases List.mem_append.1 he with he | he
                            · exact (hrp8.2.2 e (List.mem_of_mem_take he)).keep hb815
                            · simp at he; subst he; exact hrW.keep hb815
                          · exact (hrp8.2.2 e (List.mem_of_mem_drop he)).keep hb815⟩
                        have hb315 := hbR.trans (hb815.mono hbR.size)
                        have G15 := Lib.hid (And.intro hrp15 (HINV.out ⟨A12, p.n, c12, wb p.bs k false, k⟩ rfl rfl))
                        clear hrp15 hown15 hown15' hgrow HO10 hb10
                        go_wp2
                        go_roundw
                        case rel => exact ⟨A15, _, c15, _, true, rfl, rfl, G15.out.1, by omega, G15.out.2, fun h => (by cases h), hb315⟩
                        case measure => simp only [aggM]; omega
                      · have HCC := Lib.hid hcc
                        clear hcc
                        go_upto_region 18 with fail
                        refine region_pick (Below w8.heap.size w8) [(0, false, none), (1, false, none), (2, false, none), (3, false, none), (5, false, none), (8, false, none), (9, false, none), (10, false, none), (11, false, none), (4, true, some 6), (7, true, none)] 12 (by kernel_rfl) (by kernel_rfl) (fun w w' h hb => h.trans (hb.mono h.size)) (hdr8) ?_
                        simp only [pickOps, List.getElem?_cons_zero, List.getElem?_cons_succ]
                        repeat (first | (refine t_skip rfl ?_; (simp only [Act.put, List.setIfInBounds_toArray, List.set_cons_zero, List.set_cons_succ])) | (refine t_run ?_ rfl (fun w1 hw1 => ?_) ?_; rotate_left; (have r0 := rW w1 hw1; have r1 := HQ.out.1; have r2 := HQ.out.2.1; have r3 := HQ.out.2.2.1; have r4 := HQ.out.2.2.2.1; have r5 := HQ.out.2.2.2.2.1; have r6 := HQ.out.2.2.2.2.2; have r7 := HQ2.out.1; have r8 := HQ2.out.2.1; have r9 := HQ2.out.2.2.1; have r10 := HQ2.out.2.2.2; have r11 := HCC.out; go_simp; try (with_reducible rfl)); (simp only [Act.put, List.setIfInBounds_toArray, List.set_cons_zero, List.set_cons_succ])))
                        refine t_pair (fun v w' => w'.ownsRow w8.heap.size 29 3 v j (pfCells (fs.take j))) (fun v w' => LitRow w8.heap.size 29 3 1 [.slice A12 p.n c12, .string ⟨#[]⟩, .int .i64 k] v w') (fun u v w' => w'.ownsRow w8.heap.size 29 3 u j (pfCells (fs.take j)) ∧ LitRow w8.heap.size 29 3 1 [.slice A12 p.n c12, .string ⟨#[]⟩, .int .i64 k] v w' ∧ v.ownBlock ≠ u.ownBlock) (by rfl) (by rfl) (fun v w w' h hb => own_below h hb) (fun v w w' h hb => h.keep hb) (fun u v w w' h hb => ⟨own_below h.1 hb, h.2.1.keep hb, h.2.2⟩) (fun u v w h => ⟨h.1, h.2.1⟩) (fun w1 hw1 => ?_) (fun w1 hw1 => ?_) (fun u w1 hw1 hu => ?_) (fun v w1 hw1 hv => ?_) ?_
                        · obtain ⟨v', w', hr', h2, h3, -⟩ := append_old (P := Tryd.prog) (w := w1) w8.heap.size 23 23 29 i0 (.agg #[.slice none 0 0, .string ⟨#[]⟩, .int .i64 0]) 3 48 Tryd.underlying23 hi hz0 hz1 hz2 rfl (by decide) (.slice none 0 0) 0 [] (World.ownsRow_nil _ _ _ _) ⟨g, o, none⟩ j c4 (pfCells (fs.take j)) HL1.out.1 (part_take (hrp8.keep hw1) hM0 j) (pf_one _) (by unfold maxLen; omega) (by omega) hw1.size
                          rw [Nat.zero_add, List.nil_append] at h2
                          exact tAt_new v' w' (append_op _ _ 23 rfl hr') h2 (below_grown h3 (Nat.le_refl _) (by intro g hg; cases hg))
                        · refine tAt_new ?_ ?_ ?_ ?_ ?_
                          rotate_left 2
                          (go_simp; first | (refine ⟨?_, ?_⟩ <;> with_reducible rfl) | with_reducible rfl)
                          exact ⟨_, rfl, own_lit w1 #[.slice A12 p.n c12, .string ⟨#[]⟩, .int .i64 k] _ 3 1 _ hw1.size rfl (by omega)⟩
                          exact (Below.refl _ _).alloc (Nat.le_refl _) _
                        · refine tAt_new ?_ ?_ ?_ ?_ ?_
                          rotate_left 2
                          (go_simp; first | (refine ⟨?_, ?_⟩ <;> with_reducible rfl) | with_reducible rfl)
                          exact ⟨own_below hu ((Below.refl _ _).alloc (Nat.le_refl _) _), ⟨_, rfl, own_lit w1 #[.slice A12 p.n c12, .string ⟨#[]⟩, .int .i64 k] _ 3 1 _ hw1.size rfl (by omega)⟩, fun h => by have := (hu.lt w1.heap.size h.symm).2; omega⟩
                          exact (Below.refl _ _).alloc (Nat.le_refl _) _
                        · obtain ⟨v', w', hr', h2, h3, -⟩ := append_old (P := Tryd.prog) (w := w1) w1.heap.size 23 23 29 i0 (.agg #[.slice none 0 0, .string ⟨#[]⟩, .int .i64 0]) 3 48 Tryd.underlying23 hi hz0 hz1 hz2 rfl (by decide) (.slice none 0 0) 0 [] (World.ownsRow_nil _ _ _ _) ⟨g, o, none⟩ j c4 (pfCells (fs.take j)) HL1.out.1 (part_take (hrp8.keep hw1) hM0 j) (pf_one _) (by unfold maxLen; omega) (by omega) (Nat.le_refl _)
                          rw [Nat.zero_add, List.nil_append] at h2
                          have hbg := below_grown h3 (Nat.le_refl _) (by intro g hg; cases hg)
                          exact tAt_new v' w' (append_op _ _ 23 rfl hr') ⟨own_mono h2 hw1.size, hv.keep hbg, fun h => by
                            obtain ⟨g2, rfl, ho⟩ := hv
                            have h4 := (ho.lt g2 rfl).2
                            have h5 := (h2.lt g2 h.symm).1
                            omega⟩ hbg
                        rintro u v ⟨w9, -, hu9, ⟨g13, rfl, -⟩, -⟩
                        obtain ⟨A13, c13, rfl⟩ := own_slice hu9
                        clear hu9
                        (simp only [Act.put, List.setIfInBounds_toArray, List.set_cons_zero, List.set_cons_succ])
                        refine t_change (fun v w' => w'.ownsRow w8.heap.size 29 3 v (j + 1) (pfCells (fs.take j ++ [(⟨A12, p.n, c12, wb p.bs k false, k⟩ : Pf)]))) (by rfl) (fun v w w' h hb => own_below h hb) (fun w1 hw1 => ?_) ?_
                        · obtain ⟨hb, hown1, hlit, hne⟩ := hw1
                          have hrow := hlit.own
                          obtain ⟨v', w', hr', h2, h3, h4⟩ := append_old (P := Tryd.prog) (w := w1) w8.heap.size 23 23 29 i0 (.agg #[.slice none 0 0, .string ⟨#[]⟩, .int .i64 0]) 3 48 Tryd.underlying23 hi hz0 hz1 hz2 rfl (by decide) (.slice A13 j c13) j (pfCells (fs.take j)) hown1 ⟨g13, 0, none⟩ 1 1 [.slice A12 p.n c12, .string ⟨#[]⟩, .int .i64 k] rfl (fun t u ht => by
                            obtain ⟨g14, hA14, -, hc14⟩ := own_some hrow (by omega)
                            injection hA14 with hA14
                            injection hA14 with hA14
                            subst hA14
                            rw [add_at, Nat.zero_add]
                            exact hc14 t u ht) (by intro u hu; simp at hu; rcases hu with rfl | rfl | rfl <;> rfl) (by unfold maxLen; omega) (by omega) hb.size
                          have hb' : Below w8.heap.size w8 w' := hb.grown h3 hb.size (own_row_ge hown1)
                          exact ⟨v', w', append_op _ _ 23 rfl hr', by rw [pfCells_append]; exact h2, hb', h4, ⟨g13, rfl, hrow.kept h3 (.inr hne)⟩, hne⟩
                        rintro v14 ⟨w14, -, hv14⟩
                        obtain ⟨A14, c14, rfl⟩ := own_slice hv14
                        clear hv14
                        (simp only [Act.put, List.setIfInBounds_toArray, List.set_cons_zero, List.set_cons_succ])
                        intro w10 ⟨⟨hb10, _, _, _⟩, hown10⟩
                        simp only [List.drop_succ_cons, List.drop_zero]
                        have HO10 := Lib.hid hown10
                        have hs10 := hb10.size
                        clear hown10 rW hdr8
                        go_wp2_with (at_builtin; refine wpList_append_own _ rfl _ _ 23 rfl w8.heap.size 29 i0 (.agg #[.slice none 0 0, .string ⟨#[]⟩, .int .i64 0]) 3 48 Tryd.underlying23 hi hz0 hz1 hz2 rfl (by decide) _ _ _ rfl HO10.out ⟨g, o + (j + 2) * 3, none⟩ _ _ (pfCells (fs.drop (j + 2))) rfl HL1.out.2 (part_drop (hrp8.keep hb10) hM0 (j + 2) (by omega)) (pf_one _) (by unfold maxLen; omega) (by omega) hs10 ?_)
                        intro v15 w15 hown15 hgrow _
                        have hb815 : Below w8.heap.size w8 w15 := hb10.grown hgrow hb10.size (own_row_ge HO10.out)
                        obtain ⟨A15, c15, rfl⟩ := own_slice hown15
                        have hown15' : w15.ownsRow w8.heap.size 29 3 (.slice A15 (j + 1 + (M - (j + 2))) c15) (j + 1 + (M - (j + 2))) (pfCells (fs.take j ++ [(⟨A12, p.n, c12, wb p.bs k false, k⟩ : Pf)] ++ fs.drop (j + 2))) := by rw [pfCells_append]; exact hown15
                        have hrp15 : RP w15 A15 (j + 1 + (M - (j + 2))) (fs.take j ++ [(⟨A12, p.n, c12, wb p.bs k false, k⟩ : Pf)] ++ fs.drop (j + 2)) := ⟨by rw [List.length_append, List.length_append, List.length_take, List.length_drop, hrp8.1, Nat.min_eq_left (by omega)]; rfl, RC.of_own hown15', fun e he => by
                          rcases List.mem_append.1 he with he | he
                          · rcases List.mem_append.1 he with he | he
                            · exact (hrp8.2.2 e (List.mem_of_mem_take he)).keep hb815
                            · simp at he; subst he; exact hrW.keep hb815
                          · exact (hrp8.2.2 e (List.mem_of_mem_drop he)).keep hb815⟩
                        have hb315 := hbR.trans (hb815.mono hbR.size)
                        have G15 := Lib.hid (And.intro hrp15 (HINV.out ⟨A12, p.n, c12, wb p.bs k false, k⟩ rfl rfl))
                        clear hrp15 hown15 hown15' hgrow HO10 hb10
                        go_wp2
                        go_roundw
                        case rel => exact ⟨A15, _, c15, _, true, rfl, rfl, G15.out.1, by omega, G15.out.2, fun h => (by cases h), hb315⟩
                        case measure => simp only [aggM]; omega
                  · have d3 : ((p.n : Int) == q.n) = false ∧ (p.n == q.n) = false := by simp; omega
                    have D3 := Lib.hid d3
                    clear d3 hk1 hk2 hk3
                    go_upto_region 16 with fail
                    refine region_pick (Below w6.heap.size w6) [(0, false, none), (1, false, none), (2, false, none), (3, false, none), (4, false, none), (5, false, none), (6, false, none), (7, false, none), (8, false, none), (9, false, none), (10, false, none), (11, false, none), (12, false, none), (13, false, none), (14, false, none), (15, false, none), (16, false, none), (17, false, none), (18, false, none), (19, false, none), (20, false, none), (21, false, none), (22, false, none), (23, false, none), (24, false, none), (25, false, none), (26, false, none), (27, false, none), (28, false, none), (29, false, none), (30, false, none), (31, false, none), (32, false, none), (33, false, none), (34, false, none), (35, false, none), (36, false, none), (37, false, none)] 38 (by kernel_rfl) (by kernel_rfl) (fun w w' h hb => h.trans (hb.mono h.size)) (hdr) ?_
                    simp only [pickOps, List.getElem?_cons_zero, List.getElem?_cons_succ]
                    repeat (first | (refine t_skip rfl ?_; (simp only [Act.put, List.setIfInBounds_toArray, List.set_cons_zero, List.set_cons_succ])) | (refine t_run ?_ rfl (fun w1 hw1 => ?_) ?_; rotate_left; (have r0 := rP w1 hw1; have r1 := rQ w1 hw1; have r2 := D1.out.1; have r3 := D1.out.2; have r4 := D2.out.1; have r5 := D2.out.2.1; have r6 := D2.out.2.2; have r7 := D3.out.1; have r8 := D3.out.2; go_simp; try (with_reducible rfl)); (simp only [Act.put, List.setIfInBounds_toArray, List.set_cons_zero, List.set_cons_succ])))
                    intro w7 hw7
                    simp only [List.drop_succ_cons, List.drop_zero]
                    have hb47 := hb46.trans (hw7.mono hb46.size)
                    clear rP rQ hdr
                    go_wp2
                    go_roundw
                    case rel => exact ⟨rfl, rfl, j + 1, .inl (by omega), by go_num, HNX.out, hb47⟩
                    case measure => simp [intOf]; omega
                · have d2 : decide ((0 : Int) < (p.k : Int)) = false ∧ decide (0 < p.k) = false ∧ ¬ (0 : Int) < p.k := by simp; omega
                  have D2 := Lib.hid d2
                  clear d2 hk1 hk2
                  go_upto_region 16 with fail
                  refine region_pick (Below w6.heap.size w6) [(0, false, none), (1, false, none), (2, false, none), (3, false, none), (4, false, none), (5, false, none), (6, false, none), (7, false, none), (8, false, none), (9, false, none), (10, false, none), (11, false, none), (12, false, none), (13, false, none), (14, false, none), (15, false, none), (16, false, none), (17, false, none), (18, false, none), (19, false, none), (20, false, none), (21, false, none), (22, false, none), (23, false, none), (24, false, none), (25, false, none), (26, false, none), (27, false, none), (28, false, none), (29, false, none), (30, false, none), (31, false, none), (32, false, none), (33, false, none), (34, false, none), (35, false, none), (36, false, none), (37, false, none)] 38 (by kernel_rfl) (by kernel_rfl) (fun w w' h hb => h.trans (hb.mono h.size)) (hdr) ?_
                  simp only [pickOps, List.getElem?_cons_zero, List.getElem?_cons_succ]
                  repeat (first | (refine t_skip rfl ?_; (simp only [Act.put, List.setIfInBounds_toArray, List.set_cons_zero, List.set_cons_succ])) | (refine t_run ?_ rfl (fun w1 hw1 => ?_) ?_; rotate_left; (have r0 := rP w1 hw1; have r1 := rQ w1 hw1; have r2 := D1.out.1; have r3 := D1.out.2; have r4 := D2.out.1; have r5 := D2.out.2.1; have r6 := D2.out.2.2; go_simp; try (with_reducible rfl)); (simp only [Act.put, List.setIfInBounds_toArray, List.set_cons_zero, List.set_cons_succ])))
                  intro w7 hw7
                  simp only [List.drop_succ_cons, List.drop_zero]
                  have hb47 := hb46.trans (hw7.mono hb46.size)
                  clear rP rQ hdr
                  go_wp2
                  go_roundw
                  case rel => exact ⟨rfl, rfl, j + 1, .inl (by omega), by go_num, HNX.out, hb47⟩
                  case measure => simp [intOf]; omega
              · have d1 : ((p.k : Int) == q.k) = false ∧ (p.k == q.k) = false := by simp; omega
                have D1 := Lib.hid d1
                clear d1 hk1
                go_upto_region 16 with fail
                refine region_pick (Below w6.heap.size w6) [(0, false, none), (1, false, none), (2, false, none), (3, false, none), (4, false, none), (5, false, none), (6, false, none), (7, false, none), (8, false, none), (9, false, none), (10, false, none), (11, false, none), (12, false, none), (13, false, none), (14, false, none), (15, false, none), (16, false, none), (17, false, none), (18, false, none), (19, false, none), (20, false, none), (21, false, none), (22, false, none), (23, false, none), (24, false, none), (25, false, none), (26, false, none), (27, false, none), (28, false, none), (29, false, none), (30, false, none), (31, false, none), (32, false, none), (33, false, none), (34, false, none), (35, false, none), (36, false, none), (37, false, none)] 38 (by kernel_rfl) (by kernel_rfl) (fun w w' h hb => h.trans (hb.mono h.size)) (hdr) ?_
                simp only [pickOps, List.getElem?_cons_zero, List.getElem?_cons_succ]
                repeat (first | (refine t_skip rfl ?_; (simp only [Act.put, List.setIfInBounds_toArray, List.set_cons_zero, List.set_cons_succ])) | (refine t_run ?_ rfl (fun w1 hw1 => ?_) ?_; rotate_left; (have r0 := rP w1 hw1; have r1 := rQ w1 hw1; have r2 := D1.out.1; have r3 := D1.out.2; go_simp; try (with_reducible rfl)); (simp only [Act.put, List.setIfInBounds_toArray, List.set_cons_zero, List.set_cons_succ])))
                intro w7 hw7
                simp only [List.drop_succ_cons, List.drop_zero]
                have hb47 := hb46.trans (hw7.mono hb46.size)
                clear rP rQ hdr
                go_wp2
                go_roundw
                case rel => exact ⟨rfl, rfl, j + 1, .inl (by omega), by go_num, HNX.out, hb47⟩
                case measure => simp [intOf]; omega
            · have hdr : Below w6.heap.size w6 w6.drew := ⟨rfl, rfl, rfl, Nat.le_refl _, fun _ _ => rfl⟩
              have hbR : Below w3.heap.size w3 w6 := hb34.trans (hb46.mono hb34.size)
              have hInv6 := HS.out.1.drop HS.out.2.1 HPQ.out.1 HPQ.out.2 HY.out.symm
              have HINV := Lib.hid hInv6
              have q7 : (j : Int) + 1 ≤ c4 := by omega
              have q8 : (0 : Int) ≤ (j : Int) + 1 + 1 ∧ (j : Int) + 1 + 1 ≤ M := by omega
              have q9 : ((j : Int) + 1 + 1).toNat = j + 2 := by omega
              have q10 : ¬ c4 = 0 := by omega
              have HQ2 := Lib.hid (And.intro q7 (And.intro q8 (And.intro q9 q10)))
              have hl1 : (pfCells (fs.take (j + 1))).length = (j + 1) * 3 := by rw [pfCells_len, List.length_take, hrp6.1, Nat.min_eq_left (by omega)]
              have hl2 : (pfCells (fs.drop (j + 2))).length = (M - (j + 2)) * 3 := by rw [pfCells_len, List.length_drop, hrp6.1]
              have HL1 := Lib.hid (And.intro hl1 hl2)
              have hM0 : 0 < M := by omega
              clear hInv6 q7 q8 q9 q10 hl1 hl2 hbP6 hbQ6 hbp6 hbq6
              by_cases hcc : c4 = j + 2
              · have HCC := Lib.hid hcc
                have hn2 : ∀ t u, (pfCells (fs.drop (j + 2)))[t]? = some u → ∀ w' : World, w'.cell? ((⟨g, o, none⟩ : Addr).add t) = some u := fun t u ht => by
                  rw [List.drop_eq_nil_of_le (by rw [hrp6.1]; omega)] at ht
                  simp [pfCells] at ht
                have HN2 := Lib.hid hn2
                clear hcc hn2
                go_upto_region 14 with fail
                refine region_pick (Below w6.heap.size w6) [(0, false, none), (1, false, none), (2, false, none), (4, false, none), (5, false, none), (6, false, none), (7, false, none), (3, true, none)] 8 (by kernel_rfl) (by kernel_rfl) (fun w w' h hb => h.trans (hb.mono h.size)) (hdr) ?_
                simp only [pickOps, List.getElem?_cons_zero, List.getElem?_cons_succ]
                repeat (first | (refine t_skip rfl ?_; (simp only [Act.put, List.setIfInBounds_toArray, List.set_cons_zero, List.set_cons_succ])) | (refine t_run ?_ rfl (fun w1 hw1 => ?_) ?_; rotate_left; (have r0 := HQ.out.1; have r1 := HQ.out.2.1; have r2 := HQ.out.2.2.1; have r3 := HQ.out.2.2.2.1; have r4 := HQ.out.2.2.2.2.1; have r5 := HQ.out.2.2.2.2.2; have r6 := HQ2.out.1; have r7 := HQ2.out.2.1; have r8 := HQ2.out.2.2.1; have r9 := HQ2.out.2.2.2; have r10 := HCC.out; go_simp; try (with_reducible rfl)); (simp only [Act.put, List.setIfInBounds_toArray, List.set_cons_zero, List.set_cons_succ])))
                refine t_new (fun v w' => w'.ownsRow w6.heap.size 29 3 v (j + 1) (pfCells (fs.take (j + 1)))) (by rfl) (fun v w w' h hb => own_below h hb) (fun w1 hw1 => ?_) ?_
                · obtain ⟨v', w', hr', h2, h3, -⟩ := append_old (P := Tryd.prog) (w := w1) w6.heap.size 23 23 29 i0 (.agg #[.slice none 0 0, .string ⟨#[]⟩, .int .i64 0]) 3 48 Tryd.underlying23 hi hz0 hz1 hz2 rfl (by decide) (.slice none 0 0) 0 [] (World.ownsRow_nil _ _ _ _) ⟨g, o, none⟩ (j + 1) c4 (pfCells (fs.take (j + 1))) HL1.out.1 (part_take (hrp6.keep hw1) hM0 (j + 1)) (pf_one _) (by unfold maxLen; omega) (by omega) hw1.size
                  rw [Nat.zero_add, List.nil_append] at h2
                  exact ⟨v', w', append_op _ _ 23 rfl hr', h2, below_grown h3 (Nat.le_refl _) (by intro g hg; cases hg)⟩
                rintro v8 ⟨w8, -, hv8⟩
                obtain ⟨A8, c8, rfl⟩ := own_slice hv8
                clear hv8
                (simp only [Act.put, List.setIfInBounds_toArray, List.set_cons_zero, List.set_cons_succ])
                intro w7 ⟨hb7, hown7⟩
                simp only [List.drop_succ_cons, List.drop_zero]
                have HO7 := Lib.hid hown7
                have hs7 := hb7.size
                clear hown7
                go_wp2_with (at_builtin; refine wpList_append_own _ rfl _ _ 23 rfl w6.heap.size 29 i0 (.agg #[.slice none 0 0, .string ⟨#[]⟩, .int .i64 0]) 3 48 Tryd.underlying23 hi hz0 hz1 hz2 rfl (by decide) _ _ _ rfl HO7.out ⟨g, o, none⟩ _ _ (pfCells (fs.drop (j + 2))) rfl HL1.out.2 (fun t u ht => HN2.out t u ht w7) (pf_one _) (by unfold maxLen; omega) (by omega) hs7 ?_)
                intro v9 w9 hown9 hgrow _
                have hb69 : Below w6.heap.size w6 w9 := hb7.grown hgrow hb7.size (own_row_ge HO7.out)
                obtain ⟨A9, c9, rfl⟩ := own_slice hown9
                have hown9' : w9.ownsRow w6.heap.size 29 3 (.slice A9 (j + 1 + (M - (j + 2))) c9) (j + 1 + (M - (j + 2))) (pfCells (fs.take (j + 1) ++ fs.drop (j + 2))) := by rw [pfCells_append]; exact hown9
                have hrp9 : RP w9 A9 (j + 1 + (M - (j + 2))) (fs.take (j + 1) ++ fs.drop (j + 2)) := ⟨by rw [List.length_append, List.length_take, List.length_drop, hrp6.1, Nat.min_eq_left (by omega)], RC.of_own hown9', fun e he => (hrp6.2.2 e (by
                  rcases List.mem_append.1 he with he | he
                  · exact List.mem_of_mem_take he
                  · exact List.mem_of_mem_drop he)).keep hb69⟩
                have hb39 := hbR.trans (hb69.mono hbR.size)
                have G9 := Lib.hid hrp9
                clear hrp9 hown9 hown9' hgrow HO7 hb7
                go_wp2
                go_roundw
                case rel => exact ⟨A9, _, c9, _, true, rfl, rfl, G9.out, by omega, HINV.out, fun h => (by cases h), hb39⟩
                case measure => simp only [aggM]; omega
              · have HCC := Lib.hid hcc
                clear hcc
                go_upto_region 14 with fail
                refine region_pick (Below w6.heap.size w6) [(0, false, none), (1, false, none), (2, false, none), (4, false, none), (5, false, none), (6, false, none), (7, false, none), (3, true, none)] 8 (by kernel_rfl) (by kernel_rfl) (fun w w' h hb => h.trans (hb.mono h.size)) (hdr) ?_
                simp only [pickOps, List.getElem?_cons_zero, List.getElem?_cons_succ]
                repeat (first | (refine t_skip rfl ?_; (simp only [Act.put, List.setIfInBounds_toArray, List.set_cons_zero, List.set_cons_succ])) | (refine t_run ?_ rfl (fun w1 hw1 => ?_) ?_; rotate_left; (have r0 := HQ.out.1; have r1 := HQ.out.2.1; have r2 := HQ.out.2.2.1; have r3 := HQ.out.2.2.2.1; have r4 := HQ.out.2.2.2.2.1; have r5 := HQ.out.2.2.2.2.2; have r6 := HQ2.out.1; have r7 := HQ2.out.2.1; have r8 := HQ2.out.2.2.1; have r9 := HQ2.out.2.2.2; have r10 := HCC.out; go_simp; try (with_reducible rfl)); (simp only [Act.put, List.setIfInBounds_toArray, List.set_cons_zero, List.set_cons_succ])))
                refine t_new (fun v w' => w'.ownsRow w6.heap.size 29 3 v (j + 1) (pfCells (fs.take (j + 1)))) (by rfl) (fun v w w' h hb => own_below h hb) (fun w1 hw1 => ?_) ?_
                · obtain ⟨v', w', hr', h2, h3, -⟩ := append_old (P := Tryd.prog) (w := w1) w6.heap.size 23 23 29 i0 (.agg #[.slice none 0 0, .string ⟨#[]⟩, .int .i64 0]) 3 48 Tryd.underlying23 hi hz0 hz1 hz2 rfl (by decide) (.slice none 0 0) 0 [] (World.ownsRow_nil _ _ _ _) ⟨g, o, none⟩ (j + 1) c4 (pfCells (fs.take (j + 1))) HL1.out.1 (part_take (hrp6.keep hw1) hM0 (j + 1)) (pf_one _) (by unfold maxLen; omega) (by omega) hw1.size
                  rw [Nat.zero_add, List.nil_append] at h2
                  exact ⟨v', w', append_op _ _ 23 rfl hr', h2, below_grown h3 (Nat.le_refl _) (by intro g hg; cases hg)⟩
                rintro v8 ⟨w8, -, hv8⟩
                obtain ⟨A8, c8, rfl⟩ := own_slice hv8
                clear hv8
                (simp only [Act.put, List.setIfInBounds_toArray, List.set_cons_zero, List.set_cons_succ])
                intro w7 ⟨hb7, hown7⟩
                simp only [List.drop_succ_cons, List.drop_zero]
                have HO7 := Lib.hid hown7
                have hs7 := hb7.size
                clear hown7
                go_wp2_with (at_builtin; refine wpList_append_own _ rfl _ _ 23 rfl w6.heap.size 29 i0 (.agg #[.slice none 0 0, .string ⟨#[]⟩, .int .i64 0]) 3 48 Tryd.underlying23 hi hz0 hz1 hz2 rfl (by decide) _ _ _ rfl HO7.out ⟨g, o + (j + 2) * 3, none⟩ _ _ (pfCells (fs.drop (j + 2))) rfl HL1.out.2 (part_drop (hrp6.keep hb7) hM0 (j + 2) (by omega)) (pf_one _) (by unfold maxLen; omega) (by omega) hs7 ?_)
                intro v9 w9 hown9 hgrow _
                have hb69 : Below w6.heap.size w6 w9 := hb7.grown hgrow hb7.size (own_row_ge HO7.out)
                obtain ⟨A9, c9, rfl⟩ := own_slice hown9
                have hown9' : w9.ownsRow w6.heap.size 29 3 (.slice A9 (j + 1 + (M - (j + 2))) c9) (j + 1 + (M - (j + 2))) (pfCells (fs.take (j + 1) ++ fs.drop (j + 2))) := by rw [pfCells_append]; exact hown9
                have hrp9 : RP w9 A9 (j + 1 + (M - (j + 2))) (fs.take (j + 1) ++ fs.drop (j + 2)) := ⟨by rw [List.length_append, List.length_take, List.length_drop, hrp6.1, Nat.min_eq_left (by omega)], RC.of_own hown9', fun e he => (hrp6.2.2 e (by
                  rcases List.mem_append.1 he with he | he
                  · exact List.mem_of_mem_take he
                  · exact List.mem_of_mem_drop he)).keep hb69⟩
                have hb39 := hbR.trans (hb69.mono hbR.size)
                have G9 := Lib.hid hrp9
                clear hrp9 hown9 hown9' hgrow HO7 hb7
                go_wp2
                go_roundw
                case rel => exact ⟨A9, _, c9, _, true, rfl, rfl, G9.out, by omega, HINV.out, fun h => (by cases h), hb39⟩
                case measure => simp only [aggM]; omega
          · have hjn : ¬ (j : Int) + 1 < M := by omega
            have hb3r := hb34.trans (hbb.mono hb34.size)
            have hrpr := hrp4.keep hbb
            have hfin : fs.Pairwise lePf ∧ ∀ (i : Nat) a b, fs[i]? = some a → fs[i + 1]? = some b → ovP a.bs a.k b.bs b.k = false := ⟨HS.out.2.1, fun i a b ha hb => HNO.out i a b (by have := (List.getElem?_eq_some_iff.1 hb).1; have := HS.out.2.2.1; omega) ha hb⟩
            have HFIN := Lib.hid hfin
            clear hfin
            go_wp2
            go_roundw
            case rel => exact ⟨A4, M, c4, fs, false, rfl, rfl, hrpr, hMN, HS.out.1, fun _ => HFIN.out, hb3r⟩
            case measure => simp only [aggM]; omega
  · rw [show (rn == 4 || rn == 16) = false by simpa using hla]
    go_wp2_with fail
    go_returns
    exact ⟨rfl, hbw3⟩
end Go.Proofs.YtckfgdohpmllmaaDoor
