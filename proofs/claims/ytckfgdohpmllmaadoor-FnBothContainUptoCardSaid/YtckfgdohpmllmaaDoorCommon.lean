/-
  The walk of laws.FnAllInCommon.
-/
import Derived.Test.YtckfgdohpmllmaaDoorOvEach
namespace Go.Proofs.YtckfgdohpmllmaaDoor
open Go Go.RowKit
theorem ov_of_in {p q x : List UInt8} {k j : Nat} (h1 : inP p k x = true) (h2 : inP q j x = true) : ovP p k q j = true := by
  unfold inP at h1 h2
  unfold ovP
  rw [decide_eq_true_eq] at *
  have hl : p.length = q.length := h1.1.symm.trans h2.1
  refine ⟨hl, ?_⟩
  have a := top_le h1.2 (Nat.min_le_left k j)
  have b := top_le h2.2 (Nat.min_le_right k j)
  rw [← hl] at b
  rw [← a, ← b]
theorem in_of_ov {p q : List UInt8} {k j : Nat} (h : ovP p k q j = true) (hjk : j ≤ k) : inP q j (wb p k false) = true := by
  unfold ovP at h
  unfold inP
  rw [decide_eq_true_eq] at *
  refine ⟨by rw [wb_len, h.1], ?_⟩
  have a := top_le (first_in p k) hjk
  have b := h.2
  rw [Nat.min_eq_right hjk, h.1] at b
  rw [h.1] at a
  rw [a, b]
/-- Each two of some prefixes overlap. -/
def evAll (ps : List (List UInt8 × Nat)) : Bool := ps.all fun p => ps.all fun q => ovP p.1 p.2 q.1 q.2
theorem many_all (ps : List (List UInt8 × Nat)) (b : List UInt8) : manyIn ps b = ps.length ↔ ∀ p ∈ ps, inP p.1 p.2 b = true := by
  unfold manyIn
  rw [List.countP_eq_length]
theorem ev_of_in (ps : List (List UInt8 × Nat)) (b : List UInt8) (h : manyIn ps b = ps.length) : evAll ps = true := by
  rw [many_all] at h
  unfold evAll
  rw [List.all_eq_true]
  intro p hp
  rw [List.all_eq_true]
  intro q hq
  exact ov_of_in (h p hp) (h q hq)
theorem ev_first (ps : List (List UInt8 × Nat)) (L : List UInt8 × Nat) (hL : L ∈ ps) (hmax : ∀ p ∈ ps, p.2 ≤ L.2) : evAll ps = decide (manyIn ps (wb L.1 L.2 false) = ps.length) := by
  rw [Bool.eq_iff_iff, decide_eq_true_eq]
  constructor
  · intro h
    rw [many_all]
    intro q hq
    unfold evAll at h
    exact in_of_ov (List.all_eq_true.1 (List.all_eq_true.1 h L hL) q hq) (hmax q hq)
  · exact ev_of_in ps _
/-- What the outer loop has found. -/
def evB (ps : List (List UInt8 × Nat)) (j : Nat) : Bool := (ps.take j).all fun p => ps.all fun q => ovP p.1 p.2 q.1 q.2
theorem evB_take (ps : List (List UInt8 × Nat)) (j : Nat) (p : List UInt8 × Nat) (h : ps[j]? = some p) : evB ps (j + 1) = (evB ps j && (ovs p.1 p.2 ps).all id) := by
  unfold evB
  rw [List.take_add_one, h, Option.toList_some, List.all_append]
  simp [ovs, List.all_map]
theorem all_take (l : List Bool) (m : Nat) (x : Bool) (h : l[m]? = some x) : (l.take (m + 1)).all id = ((l.take m).all id && x) := by
  rw [List.take_add_one, h, Option.toList_some, List.all_append]
  simp
theorem boolCells_get (l : List Bool) (m : Nat) (h : m < l.length) : (boolCells l)[m]? = some (.bool (l.getD m false)) := by
  simp [boolCells, List.getD, h]
set_option maxRecDepth 100000 in
set_option maxHeartbeats 16000000 in
theorem common_walk (A : Option Addr) (n c : Nat) (es0 : List En) (B : Option Addr) (m d : Nat) (xs : List UInt8) (R : Option Addr) (rn rc : Nat) (rs : List UInt8) (z : ZP) (w : World) (hz : Zs w z) (hl : RS w A n es0) (hn : n ≤ 1048576) (hx : RB w B m xs) (hm : m ≤ 1048576)
    (hp : RB w R rn rs) (hR : R = none → rn = 0 ∧ rc = 0) (hrn : rn ≤ 1048576) :
    Calls Tryd.prog 5 #[.slice A n c, .slice B m d, .slice R rn rc] w (TrueW w) := by
  have hzl : ((es0.map (·.bs)).zip xs).length ≤ n := by rw [List.length_zip, List.length_map, hl.1]; omega
  have hval := madeZ_valid ((es0.map (·.bs)).zip xs)
  have hmlen : (madeZ ((es0.map (·.bs)).zip xs)).length ≤ n := by
    unfold madeZ; rw [List.length_map]; exact Nat.le_trans (List.length_filter_le _ _) hzl
  go_enter Tryd.func5, Tryd.ntmps5
  go_wp2_with fail
  refine (made_c A n c es0 B m d xs w hl (by omega) hx (by omega)).mono ?_
  rintro e0 w1 ⟨v1, rfl, ⟨A1, c1, es, rfl, hown, hmap, hin⟩, hb1⟩
  rw [← hmap] at hval hmlen
  rw [List.length_map] at hmlen
  have hrp := RP.of_own hown rfl hin
  have hz1 := hz.keep hb1
  have hv : ∀ e ∈ es, Vp e.is := fun e he => hval e.is (List.mem_map_of_mem he)
  have hp1 := hp.keep hb1
  have HV := Lib.hid hv
  clear hown hmap hin hval hzl hv
  by_cases h0 : es.length = 0
  · have d1 : (es.length == 0) = true := by simpa using h0
    have d2 : ((es.length : Int) == 0) = true := by simp [h0]
    go_wp2_with fail
    go_returns
    exact ⟨rfl, hb1⟩
  · obtain ⟨N, hN⟩ : ∃ N, N = es.length := ⟨_, rfl⟩
    have hN0 : 0 < N := by omega
    rw [← hN] at hrp hmlen ⊢
    have HN := Lib.hid hN
    clear hN h0
    have d1 : (N == 0) = false := by simp; omega
    have d2 : ((N : Int) == 0) = false := by simp; omega
    obtain ⟨g, o, e, hA, hg, hek, hc0, hc1, hc2, hbe⟩ := hrp.at (i := 0) (by omega)
    subst hA
    have hem := List.mem_of_getElem? hek
    have HEM := Lib.hid hem
    clear hem hek
    simp only [Nat.zero_mul, Nat.add_zero] at hc0 hc1 hc2
    go_wp2_with fail
    have hw2 : Below w1.heap.size w1 (w1.alloc (.cells #[.slice e.a e.n e.c, .string ⟨#[]⟩, .int .i64 e.k] 29)) := (Below.refl _ _).alloc (Nat.le_refl _) _
    have hk2 : Blk (w1.alloc (.cells #[.slice e.a e.n e.c, .string ⟨#[]⟩, .int .i64 e.k] 29)) w1.heap.size 29 #[.slice e.a e.n e.c, .string ⟨#[]⟩, .int .i64 e.k] := heap_alloc_new _ _
    clear hc0 hc1 hc2 hbe
    go_loopw [9, 26] (fun v i wr => ∃ (j : Nat) (L : Pf), j ≤ N ∧ i = .int .i64 j ∧ v = .bool (evB (es.map Pf.is) j) ∧ L ∈ es ∧ (∀ y ∈ es.take j, y.k ≤ L.k) ∧ Blk wr w1.heap.size 29 #[.slice L.a L.n L.c, .string ⟨#[]⟩, .int .i64 L.k] ∧ Below w1.heap.size w1 wr) (fun _ i _ => N - (intOf i).toNat)
    case atStart => exact ⟨0, e, Nat.zero_le _, rfl, rfl, HEM.out, fun y hy => (by simp at hy), hk2, hw2⟩
    case round =>
      clear hk2 hw2 HEM
      obtain ⟨j, L, hj, rfl, rfl, hLm, hLx, hblk, hbb⟩ := hrel
      have HL := Lib.hid (And.intro hLm hLx)
      have hLv := HV.out L hLm
      have cL := hblk.cell
      have fL := hblk.free
      have lL := hblk.lt
      have HB := Lib.hid hblk
      clear hLm hLx hblk
      by_cases hlt : j < N
      · obtain ⟨g', o', e, hA, hg', hek, hc0, hc1, hc2, hbe⟩ := (hrp.keep hbb).at hlt
        injection hA with hA
        injection hA with hA1 hA2
        subst hA1 hA2
        have hem := List.mem_of_getElem? hek
        have hev := evB_take (es.map Pf.is) j e.is (by rw [List.getElem?_map, hek]; rfl)
        have htk : es.take (j + 1) = es.take j ++ [e] := by rw [List.take_add_one, hek]; rfl
        have hve := HV.out e hem
        have HE := Lib.hid (And.intro hem (And.intro hev htk))
        clear hem hev htk hek
        generalize evB (es.map Pf.is) j = q at *
        by_cases hgt : L.k < e.k
        · have hB4 := ((HB.out.set 0 (.slice e.a e.n e.c)).set 1 (.string ⟨#[]⟩)).set 2 (.int .i64 e.k)
          simp only [List.setIfInBounds_toArray, List.set_cons_zero, List.set_cons_succ] at hB4
          have hW4 := ((hbb.setCell (p := ⟨w1.heap.size, 0, none⟩) (Nat.le_refl _) (.slice e.a e.n e.c)).setCell (p := ⟨w1.heap.size, 1, none⟩) (Nat.le_refl _) (.string ⟨#[]⟩)).setCell (p := ⟨w1.heap.size, 2, none⟩) (Nat.le_refl _) (.int .i64 e.k)
          have hx4 : Below (((wr.setCell ⟨w1.heap.size, 0, none⟩ (.slice e.a e.n e.c)).setCell ⟨w1.heap.size, 1, none⟩ (.string ⟨#[]⟩)).setCell ⟨w1.heap.size, 2, none⟩ (.int .i64 e.k)).heap.size (((wr.setCell ⟨w1.heap.size, 0, none⟩ (.slice e.a e.n e.c)).setCell ⟨w1.heap.size, 1, none⟩ (.string ⟨#[]⟩)).setCell ⟨w1.heap.size, 2, none⟩ (.int .i64 e.k)) ((((wr.setCell ⟨w1.heap.size, 0, none⟩ (.slice e.a e.n e.c)).setCell ⟨w1.heap.size, 1, none⟩ (.string ⟨#[]⟩)).setCell ⟨w1.heap.size, 2, none⟩ (.int .i64 e.k)).alloc (.cells #[.slice e.a e.n e.c, .string ⟨#[]⟩, .int .i64 e.k] 29)) := (Below.refl _ _).alloc (Nat.le_refl _) _
          have hB5 := hB4.below hx4
          have hW5 := hW4.trans (hx4.mono hW4.size)
          clear hB4 hW4 hx4
          go_wp2_with fail
          generalize (((wr.setCell ⟨w1.heap.size, 0, none⟩ (.slice e.a e.n e.c)).setCell ⟨w1.heap.size, 1, none⟩ (.string ⟨#[]⟩)).setCell ⟨w1.heap.size, 2, none⟩ (.int .i64 e.k)).alloc (.cells #[.slice e.a e.n e.c, .string ⟨#[]⟩, .int .i64 e.k] 29) = w5 at *
          have hb5e := (hrp.keep hW5).2.2 e HE.out.1
          refine (ovEach_c e.a e.n e.c e.bs e.k _ N c1 es z w5 (hz1.keep hW5) hb5e hve.1 hve.2 (hrp.keep hW5) HV.out (by omega)).mono ?_
          rintro e1 w6 ⟨A6, c6, rfl, hown6, hb6⟩
          obtain ⟨g6, hA6, hg6, hc6⟩ := own_some hown6 hN0
          subst hA6
          have hB6 := hB5.below hb6
          have hW6 := hW5.trans (hb6.mono hW5.size)
          have hol : (ovs e.bs e.k (es.map Pf.is)).length = N := by unfold ovs; rw [List.length_map, List.length_map, ← HN.out]
          have hmax : ∀ y ∈ es.take (j + 1), y.k ≤ e.k := fun y hy => by
            rw [HE.out.2.2] at hy
            rcases List.mem_append.1 hy with hy | hy
            · have := HL.out.2 y hy; omega
            · simp at hy; subst hy; omega
          have HC := Lib.hid hc6
          have HMX := Lib.hid hmax
          have HOL := Lib.hid hol
          have HB6 := Lib.hid hB6
          clear hown6 hc6 hmax hol hB6 hB5 hb5e hb6 hW5 hc0 hc1 hc2 hbe cL fL lL HB
          go_wp2_with fail
          go_loop [9, 40] (fun v i => ∃ t : Nat, t ≤ N ∧ i = .int .i64 t ∧ v = .bool (q && ((ovs e.bs e.k (es.map Pf.is)).take t).all id)) (fun _ i => N - (intOf i).toNat)
          case atStart => exact ⟨0, Nat.zero_le _, rfl, by simp⟩
          case round =>
            obtain ⟨t, ht, rfl, rfl⟩ := hrel
            by_cases htN : t < N
            · have hx1 := HC.out t _ (boolCells_get _ t (by rw [HOL.out]; exact htN))
              have hx2 := all_take (ovs e.bs e.k (es.map Pf.is)) t ((ovs e.bs e.k (es.map Pf.is)).getD t false) (by simp [List.getD, HOL.out, htN])
              have HX := Lib.hid hx2
              clear hx2
              generalize (ovs e.bs e.k (es.map Pf.is)).getD t false = x at *
              obtain ⟨b, hb⟩ : ∃ b, b = (q && ((ovs e.bs e.k (es.map Pf.is)).take t).all id) := ⟨_, rfl⟩
              rw [← hb]
              have HBB := Lib.hid hb
              clear hb
              cases b
              all_goals
                go_wp2
                go_round
                case rel => exact ⟨t + 1, by omega, by go_num, by rw [HX.out, ← Bool.and_assoc, ← HBB.out]; simp⟩
                case measure => simp [intOf]; omega
            · obtain rfl : t = N := by omega
              have hfull : (q && ((ovs e.bs e.k (es.map Pf.is)).take t).all id) = evB (es.map Pf.is) (j + 1) := by
                rw [List.take_of_length_le (by rw [HOL.out]; omega), HE.out.2.1]
                rfl
              rw [hfull]
              clear hfull
              go_wp2
              go_roundw
              case rel => exact ⟨j + 1, e, by omega, by go_num, rfl, HE.out.1, HMX.out, HB6.out, hW6⟩
              case measure => simp [intOf]; omega
        · have hx4 : Below wr.heap.size wr (wr.alloc (.cells #[.slice e.a e.n e.c, .string ⟨#[]⟩, .int .i64 e.k] 29)) := (Below.refl _ _).alloc (Nat.le_refl _) _
          have hB5 := HB.out.below hx4
          have hW5 := hbb.trans (hx4.mono hbb.size)
          clear hx4
          go_wp2_with fail
          generalize wr.alloc (.cells #[.slice e.a e.n e.c, .string ⟨#[]⟩, .int .i64 e.k] 29) = w5 at *
          have hb5e := (hrp.keep hW5).2.2 e HE.out.1
          refine (ovEach_c e.a e.n e.c e.bs e.k _ N c1 es z w5 (hz1.keep hW5) hb5e hve.1 hve.2 (hrp.keep hW5) HV.out (by omega)).mono ?_
          rintro e1 w6 ⟨A6, c6, rfl, hown6, hb6⟩
          obtain ⟨g6, hA6, hg6, hc6⟩ := own_some hown6 hN0
          subst hA6
          have hB6 := hB5.below hb6
          have hW6 := hW5.trans (hb6.mono hW5.size)
          have hol : (ovs e.bs e.k (es.map Pf.is)).length = N := by unfold ovs; rw [List.length_map, List.length_map, ← HN.out]
          have hmax : ∀ y ∈ es.take (j + 1), y.k ≤ L.k := fun y hy => by
            rw [HE.out.2.2] at hy
            rcases List.mem_append.1 hy with hy | hy
            · have := HL.out.2 y hy; omega
            · simp at hy; subst hy; omega
          have HC := Lib.hid hc6
          have HMX := Lib.hid hmax
          have HOL := Lib.hid hol
          have HB6 := Lib.hid hB6
          clear hown6 hc6 hmax hol hB6 hB5 hb5e hb6 hW5 hc0 hc1 hc2 hbe cL fL lL HB
          go_wp2_with fail
          go_loop [9, 40] (fun v i => ∃ t : Nat, t ≤ N ∧ i = .int .i64 t ∧ v = .bool (q && ((ovs e.bs e.k (es.map Pf.is)).take t).all id)) (fun _ i => N - (intOf i).toNat)
          case atStart => exact ⟨0, Nat.zero_le _, rfl, by simp⟩
          case round =>
            obtain ⟨t, ht, rfl, rfl⟩ := hrel
            by_cases htN : t < N
            · have hx1 := HC.out t _ (boolCells_get _ t (by rw [HOL.out]; exact htN))
              have hx2 := all_take (ovs e.bs e.k (es.map Pf.is)) t ((ovs e.bs e.k (es.map Pf.is)).getD t false) (by simp [List.getD, HOL.out, htN])
              have HX := Lib.hid hx2
              clear hx2
              generalize (ovs e.bs e.k (es.map Pf.is)).getD t false = x at *
              obtain ⟨b, hb⟩ : ∃ b, b = (q && ((ovs e.bs e.k (es.map Pf.is)).take t).all id) := ⟨_, rfl⟩
              rw [← hb]
              have HBB := Lib.hid hb
              clear hb
              cases b
              all_goals
                go_wp2
                go_round
                case rel => exact ⟨t + 1, by omega, by go_num, by rw [HX.out, ← Bool.and_assoc, ← HBB.out]; simp⟩
                case measure => simp [intOf]; omega
            · obtain rfl : t = N := by omega
              have hfull : (q && ((ovs e.bs e.k (es.map Pf.is)).take t).all id) = evB (es.map Pf.is) (j + 1) := by
                rw [List.take_of_length_le (by rw [HOL.out]; omega), HE.out.2.1]
                rfl
              rw [hfull]
              clear hfull
              go_wp2
              go_roundw
              case rel => exact ⟨j + 1, L, by omega, by go_num, rfl, HL.out.1, HMX.out, HB6.out, hW6⟩
              case measure => simp [intOf]; omega
      · obtain rfl : j = N := by omega
        have hLr := (hrp.keep hbb).2.2 L HL.out.1
        have hLn := hLr.1
        have hpl : (es.map Pf.is).length = j := by rw [List.length_map, ← HN.out]
        have hev : evB (es.map Pf.is) j = decide (manyIn (es.map Pf.is) (wb L.bs L.k false) = j) := by
          have h1 := ev_first (es.map Pf.is) L.is (List.mem_map_of_mem HL.out.1) (fun p hp => by
            obtain ⟨y, hy, rfl⟩ := List.mem_map.1 hp
            exact HL.out.2 y (by rw [List.take_of_length_le (by rw [← HN.out]; omega)]; exact hy))
          rw [hpl] at h1
          unfold evB
          rw [List.take_of_length_le (by rw [hpl]; omega)]
          exact h1
        have hpr : manyIn (es.map Pf.is) rs = j → evB (es.map Pf.is) j = true := fun h => by
          have h1 := ev_of_in (es.map Pf.is) rs (by rw [hpl]; exact h)
          unfold evB
          rw [List.take_of_length_le (by rw [hpl]; omega)]
          exact h1
        have hle := manyIn_le (es.map Pf.is) rs
        rw [hpl] at hle
        have hisl : isLen L.n := by rw [← hLn]; exact hLv.1
        have hLk : L.k ≤ 8 * L.n := by rw [← hLn]; exact hLv.2
        have hL16 : L.n ≤ 16 := by unfold isLen at hisl; omega
        have HEV := Lib.hid (And.intro hev hpr)
        clear hev hpr hpl
        generalize evB (es.map Pf.is) j = q at *
        clear fL lL
        go_wp2_with fail
        refine (firstOf_c L.a L.n L.c L.bs L.k wr hLr hisl hLk).mono ?_
        rintro e1 w6 ⟨v6, rfl, ⟨g6, c6, rfl, hown6⟩, hb6⟩
        have hr6 := RB.of_own hown6
        have hbb6 := hbb.trans (hb6.mono hbb.size)
        clear cL hown6 hb6 hLr HB
        go_wp2_with fail
        refine (howMany_c _ _ j L.n c1 c6 es (wb L.bs L.k false) z w6 (hz1.keep hbb6) (hrp.keep hbb6) HV.out (by omega) hr6 (by simp) (by omega)).mono ?_
        rintro e1 w7 ⟨rfl, hb7⟩
        have hbb7 := hbb6.trans (hb7.mono hbb6.size)
        clear hr6 hb7 hbb6 hbb
        have hev := HEV.out.1
        have hpr := HEV.out.2
        clear HEV
        generalize manyIn (es.map Pf.is) (wb L.bs L.k false) = M1 at *
        have hbw : ∀ w', Below w7.heap.size w7 w' → Below w.heap.size w w' := fun w' h => hb1.trans ((hbb7.trans (h.mono hbb7.size)).mono hb1.size)
        have hcs : ∃ t, q = t ∧ ((M1 : Int) == j) = t ∧ (M1 == j) = t := by
          refine ⟨q, rfl, ?_, ?_⟩
          · rw [hev, Bool.eq_iff_iff, beq_iff_eq, decide_eq_true_eq]; omega
          · rw [hev, Bool.eq_iff_iff, beq_iff_eq, decide_eq_true_eq]
        obtain ⟨t, rfl, t1, t2⟩ := hcs
        clear hev
        generalize hM2 : manyIn (es.map Pf.is) rs = M2 at *
        have hM3 : q = false → M2 < j := fun h => by
          rcases Nat.lt_or_ge M2 j with h' | h'
          · exact h'
          · have := hpr (by omega); rw [h] at this; cases this
        have HM := Lib.hid (And.intro hM2 (And.intro hM3 (And.intro t1 t2)))
        clear hM2 hM3 hpr t2
        go_wp2_with fail
        refine (isAddress_c R rn rc w7).mono ?_
        rintro e1 w8 ⟨rfl, hb8⟩
        cases had : (rn == 4 || rn == 16)
        · have hbf := hbw w8 hb8
          go_wp2
          go_returns
          exact ⟨by simp, hbf⟩
        · have hbb8 := hbb7.trans (hb8.mono hbb7.size)
          go_wp2_with fail
          refine (howMany_c _ R j rn c1 rc es rs z w8 (hz1.keep hbb8) (hrp.keep hbb8) HV.out (by omega) (hp1.keep hbb8) hR (by omega)).mono ?_
          rintro e1 w9 ⟨rfl, hb9⟩
          have hbf := hbw w9 (hb8.trans (hb9.mono hb8.size))
          rw [HM.out.1]
          cases q
          · have hlt2 := HM.out.2.1 rfl
            go_wp2
            go_returns
            exact ⟨by simp, hbf⟩
          · by_cases hlt2 : M2 < j
            · go_wp2
              go_returns
              exact ⟨by simp, hbf⟩
            · go_wp2
              go_returns
              exact ⟨by simp, hbf⟩
end Go.Proofs.YtckfgdohpmllmaaDoor
