/-
  The walk of laws.FnMasksInARow.
-/
import Derived.Test.YtckfgdohpmllmaaDoorCuts
import Derived.Test.YtckfgdohpmllmaaDoorLeft
import Derived.Test.YtckfgdohpmllmaaDoorSame
namespace Go.Proofs.YtckfgdohpmllmaaDoor
open Go Go.RowKit
theorem wb_all (a : List UInt8) : wb a (8 * a.length) false = a := by
  symm
  refine wb_of a a (8 * a.length) false rfl fun p hp => ?_
  rw [if_neg (by omega)]
theorem wb_wb (a : List UInt8) (L b : Nat) : wb (wb a L false) b false = wb a (min L b) false := by
  refine wb_of a _ (min L b) false (by rw [wb_len, wb_len]) fun p hp => ?_
  rw [wb_beNat, wbN_bit, wb_len, wb_beNat, wbN_bit]
  by_cases h1 : p < 8 * a.length - b
  · rw [if_pos h1, if_pos (by omega)]
  · rw [if_neg h1]
    by_cases h2 : p < 8 * a.length - L
    · rw [if_pos h2, if_pos (by omega)]
    · rw [if_neg h2, if_neg (by omega)]
theorem tag_addr : ∀ t, byteTag t → t ≠ 27 := fun _ ht => ht.ne (by decide) (by decide) (by decide)
/-- One number in a literal. -/
theorem one_num {w : World} (b : Nat) : RN (w.alloc (.cells #[.int .i64 b] 3)) (some ⟨w.heap.size, 0, none⟩) 1 [b] := by
  refine ⟨rfl, fun _ => ⟨_, _, rfl, by simp, fun i u hi => ?_⟩⟩
  rw [World.cell?_alloc_new]
  match i, hi with
  | 0, hi => simpa using hi
set_option maxRecDepth 100000 in
set_option maxHeartbeats 16000000 in
theorem masks_walk (A : Option Addr) (n c : Nat) (bs : List UInt8) (B : Option Addr) (m d : Nat) (xs : List UInt8) (z : ZP) (w : World) (hz : Zs w z) (hr : RB w A n bs) (hA : A = none → n = 0 ∧ c = 0) (hn : n ≤ 140737488355328) (hx : RB w B m xs) (hm : m ≤ 140737488355328) :
    Calls Tryd.prog 4 #[.slice A n c, .slice B m d] w (TrueW w) := by
  have hbl := hr.1
  go_enter Tryd.func4, Tryd.ntmps4
  go_wp2_with fail
  refine (isAddress_c A n c w).mono ?_
  rintro e w0 ⟨rfl, hb0⟩
  by_cases hl : (n == 4 || n == 16) = true
  · rw [hl]
    have hisn : isLen n := by simpa [isLen] using hl
    have hn16 : 0 < n ∧ n ≤ 16 := by unfold isLen at hisn; omega
    have hisl : isLen bs.length := by rw [hbl]; exact hisn
    go_wp2_with fail
    refine (plain_c A n c bs w0 (hr.keep hb0) hA hn).mono ?_
    rintro e w1 ⟨A1, c1, rfl, hown1, hb1'⟩
    have hb1 := hb0.trans (hb1'.mono hb0.size)
    have hO1 := own_mono hown1 (Nat.zero_le _)
    have hx2 : Below w1.heap.size w1 (w1.alloc (.cells #[.slice A1 n c1, .string ⟨#[]⟩] 27)) := (Below.refl _ _).alloc (Nat.le_refl _) _
    have hO2 := own_below hO1 hx2
    have hB2 : Blk (w1.alloc (.cells #[.slice A1 n c1, .string ⟨#[]⟩] 27)) w1.heap.size 27 #[.slice A1 n c1, .string ⟨#[]⟩] := heap_alloc_new _ _
    have hb2 := hb1.trans (hx2.mono hb1.size)
    clear hown1 hb1' hO1 hx2
    go_wp2_with fail
    have hsz1 := hb1.size
    go_loopw [6, 22] (fun v i wr => ∃ (j L : Nat) (qa : Option Addr) (qc : Nat), j ≤ m ∧ i = .int .i64 j ∧ v = .int .i64 L ∧ L ≤ 8 * n ∧ Blk wr w1.heap.size 27 #[.slice qa n qc, .string ⟨#[]⟩] ∧ (∃ t, byteTag t ∧ wr.ownsRow 0 t 1 (.slice qa n qc) n (Lib.byteCells (wb bs L false))) ∧ Below w.heap.size w wr) (fun _ i _ => m - (intOf i).toNat)
    case atStart => exact ⟨0, 8 * n, A1, c1, Nat.zero_le _, rfl, by push_cast; rfl, Nat.le_refl _, hB2, ⟨_, Or.inl rfl, by rw [← hbl, wb_all, hbl]; exact hO2⟩, hb2⟩
    case round =>
      clear hB2 hO2 hb2
      obtain ⟨j, L, qa, qc, hj, rfl, rfl, hL, hblk, ⟨t, ht, hown⟩, hbb⟩ := hrel
      have cQ := hblk.cell
      have fQ := hblk.free
      have lQ := hblk.lt
      have HB := Lib.hid hblk
      have HO := Lib.hid (And.intro ht hown)
      have hq := RB.of_own hown
      clear hblk ht hown
      by_cases hlt : j < m
      · obtain ⟨g2, o2, hB, hg2, hc2⟩ := (hx.keep hbb).2 (by omega)
        subst hB
        have hcx := hc2 j hlt
        have hx256 : (xs.getD j 0).toNat < 256 := (xs.getD j 0).toBitVec.isLt
        generalize (xs.getD j 0).toNat = x at *
        have hdp : (x : Int) % (8 * (n : Int) + 1) = ((x % (8 * n + 1) : Nat) : Int) := by rw [Int.natCast_emod]; push_cast; rfl
        have hbl2 : x % (8 * n + 1) < 8 * n + 1 := Nat.mod_lt _ (by omega)
        clear hc2
        by_cases hlb : (x : Int) % (8 * (n : Int) + 1) < (L : Int)
        · have hlb2 : x % (8 * n + 1) < L := by omega
          generalize x % (8 * n + 1) = b at *
          have HDP := Lib.hid (And.intro hdp hlb2)
          clear hdp hlb2
          go_wp2_with fail
          rw [HDP.out.1]
          have hx4 : Below wr.heap.size wr (wr.alloc (.cells #[.int .i64 b] 3)) := (Below.refl _ _).alloc (Nat.le_refl _) _
          have hrn : RN (wr.alloc (.cells #[.int .i64 b] 3)) (some ⟨wr.heap.size, 0, none⟩) 1 [b] := one_num b
          have hbb4 := hbb.trans (hx4.mono hbb.size)
          have hB4 := HB.out.below hx4
          have hvb : ∀ y ∈ [b], y ≤ 8 * (wb bs L false).length := fun y hy => by
            rw [wb_len, hbl]
            simp at hy
            omega
          refine (prefixesOf_c qa n qc (wb bs L false) _ 1 1 [b] z _ (hz.keep hbb4) (hq.keep hx4) (by rw [wb_len]; exact hisl) hrn hvb (by omega)).mono ?_
          rintro e1 w6 ⟨A6, c6, es, rfl, hown6, hmap6, hin6, hb6⟩
          obtain ⟨f, rfl⟩ : ∃ f, es = [f] := List.length_eq_one_iff.1 (by have := congrArg List.length hmap6; simpa [cutsOf] using this)
          simp only [cutsOf, List.map_cons, List.map_nil, List.cons.injEq, and_true] at hmap6
          obtain ⟨fa, fn, fc, fb, fk⟩ := f
          obtain rfl : fb = wb (wb bs L false) b false := congrArg Prod.fst hmap6
          obtain rfl : fk = b := congrArg Prod.snd hmap6
          obtain ⟨t6, ht6, ho6⟩ := hin6 _ (List.mem_singleton.2 rfl)
          simp only at ho6
          obtain rfl : fn = n := by have := (RB.of_own ho6).1; rw [wb_len, wb_len] at this; omega
          obtain ⟨g6, hA6, hg6, hc6⟩ := own_some hown6 (by simp)
          subst hA6
          have k0 := hc6 0 _ rfl
          have k1 := hc6 1 _ rfl
          have k2 := hc6 2 _ rfl
          have k3 := hc6 3 _ rfl
          simp only at k0 k2
          have hB6 := hB4.below hb6
          have cQ6 := hB6.cell
          have fQ6 := hB6.free
          have lQ6 := hB6.lt
          have hbb6 := hbb4.trans (hb6.mono hbb4.size)
          have hB7 := (hB6.set 0 (.slice fa fn fc)).set 1 (.string ⟨#[]⟩)
          simp only [List.setIfInBounds_toArray, List.set_cons_zero, List.set_cons_succ] at hB7
          have hO7 := own_set (own_set (own_mono ho6 (Nat.zero_le _)) hB6 (tag_addr t6 ht6) 0 (.slice fa fn fc)) (hB6.set 0 _) (tag_addr t6 ht6) 1 (.string ⟨#[]⟩)
          rw [wb_wb, show min L fk = fk by have := HDP.out.2; omega] at hO7
          have hb7 := (hbb6.setCell (p := ⟨w1.heap.size, 0, none⟩) hsz1 (.slice fa fn fc)).setCell (p := ⟨w1.heap.size, 1, none⟩) hsz1 (.string ⟨#[]⟩)
          have HB7 := Lib.hid hB7
          have HO7 := Lib.hid hO7
          have HBB7 := Lib.hid hb7
          clear hB7 hO7 hb7 hB6 hown6 hmap6 hin6 ho6 hc6 hb6 hB4 hx4 hrn cQ fQ lQ hq HO HB
          go_wp2
          go_roundw
          case rel => exact ⟨j + 1, fk, fa, fc, by omega, by go_num, rfl, by omega, HB7.out, ⟨t6, ht6, HO7.out⟩, HBB7.out⟩
          case measure => simp [intOf]; omega
        · have hlb2 : ¬ x % (8 * n + 1) < L := by omega
          generalize x % (8 * n + 1) = b at *
          have HDP := Lib.hid (And.intro hdp hlb2)
          clear hdp hlb2
          go_wp2_with fail
          rw [HDP.out.1]
          have hx4 : Below wr.heap.size wr (wr.alloc (.cells #[.int .i64 b] 3)) := (Below.refl _ _).alloc (Nat.le_refl _) _
          have hrn : RN (wr.alloc (.cells #[.int .i64 b] 3)) (some ⟨wr.heap.size, 0, none⟩) 1 [b] := one_num b
          have hbb4 := hbb.trans (hx4.mono hbb.size)
          have hB4 := HB.out.below hx4
          have hvb : ∀ y ∈ [b], y ≤ 8 * (wb bs L false).length := fun y hy => by
            rw [wb_len, hbl]
            simp at hy
            omega
          refine (prefixesOf_c qa n qc (wb bs L false) _ 1 1 [b] z _ (hz.keep hbb4) (hq.keep hx4) (by rw [wb_len]; exact hisl) hrn hvb (by omega)).mono ?_
          rintro e1 w6 ⟨A6, c6, es, rfl, hown6, hmap6, hin6, hb6⟩
          obtain ⟨f, rfl⟩ : ∃ f, es = [f] := List.length_eq_one_iff.1 (by have := congrArg List.length hmap6; simpa [cutsOf] using this)
          simp only [cutsOf, List.map_cons, List.map_nil, List.cons.injEq, and_true] at hmap6
          obtain ⟨fa, fn, fc, fb, fk⟩ := f
          obtain rfl : fb = wb (wb bs L false) b false := congrArg Prod.fst hmap6
          obtain rfl : fk = b := congrArg Prod.snd hmap6
          obtain ⟨t6, ht6, ho6⟩ := hin6 _ (List.mem_singleton.2 rfl)
          simp only at ho6
          obtain rfl : fn = n := by have := (RB.of_own ho6).1; rw [wb_len, wb_len] at this; omega
          obtain ⟨g6, hA6, hg6, hc6⟩ := own_some hown6 (by simp)
          subst hA6
          have k0 := hc6 0 _ rfl
          have k1 := hc6 1 _ rfl
          have k2 := hc6 2 _ rfl
          have k3 := hc6 3 _ rfl
          simp only at k0 k2
          have hB6 := hB4.below hb6
          have cQ6 := hB6.cell
          have fQ6 := hB6.free
          have lQ6 := hB6.lt
          have hbb6 := hbb4.trans (hb6.mono hbb4.size)
          have hB7 := (hB6.set 0 (.slice fa fn fc)).set 1 (.string ⟨#[]⟩)
          simp only [List.setIfInBounds_toArray, List.set_cons_zero, List.set_cons_succ] at hB7
          have hO7 := own_set (own_set (own_mono ho6 (Nat.zero_le _)) hB6 (tag_addr t6 ht6) 0 (.slice fa fn fc)) (hB6.set 0 _) (tag_addr t6 ht6) 1 (.string ⟨#[]⟩)
          rw [wb_wb, show min L fk = L by have := HDP.out.2; omega] at hO7
          have hb7 := (hbb6.setCell (p := ⟨w1.heap.size, 0, none⟩) hsz1 (.slice fa fn fc)).setCell (p := ⟨w1.heap.size, 1, none⟩) hsz1 (.string ⟨#[]⟩)
          have HB7 := Lib.hid hB7
          have HO7 := Lib.hid hO7
          have HBB7 := Lib.hid hb7
          clear hB7 hO7 hb7 hB6 hown6 hmap6 hin6 ho6 hc6 hb6 hB4 hx4 hrn cQ fQ lQ hq HO HB
          go_wp2
          go_roundw
          case rel => exact ⟨j + 1, L, fa, fc, by omega, by go_num, rfl, by omega, HB7.out, ⟨t6, ht6, HO7.out⟩, HBB7.out⟩
          case measure => simp [intOf]; omega
      · obtain rfl : j = m := by omega
        go_wp2_with fail
        refine (plain_c A n c bs wr (hr.keep hbb) hA hn).mono ?_
        rintro e1 w5 ⟨A5, c5, rfl, hown5, hb5⟩
        have hr5 := RB.of_own hown5
        have hbb5 := hbb.trans (hb5.mono hbb.size)
        have hB5 := HB.out.below hb5
        have hO5 := own_below HO.out.2 hb5
        clear hown5 hb5 cQ fQ lQ hq
        go_wp2_with fail
        have hx6 : Below w5.heap.size w5 (w5.alloc (.cells #[.int .i64 L] 3)) := (Below.refl _ _).alloc (Nat.le_refl _) _
        have hrn : RN (w5.alloc (.cells #[.int .i64 L] 3)) (some ⟨w5.heap.size, 0, none⟩) 1 [L] := one_num L
        have hbb6 := hbb5.trans (hx6.mono hbb5.size)
        have hvb : ∀ y ∈ [L], y ≤ 8 * bs.length := fun y hy => by
          rw [hbl]
          simp at hy
          omega
        refine (prefixesOf_c A5 n c5 bs _ 1 1 [L] z _ (hz.keep hbb6) (hr5.keep hx6) hisl hrn hvb (by omega)).mono ?_
        rintro e1 w7 ⟨A7, c7, es, rfl, hown7, hmap7, hin7, hb7⟩
        obtain ⟨f, rfl⟩ : ∃ f, es = [f] := List.length_eq_one_iff.1 (by have := congrArg List.length hmap7; simpa [cutsOf] using this)
        simp only [cutsOf, List.map_cons, List.map_nil, List.cons.injEq, and_true] at hmap7
        obtain ⟨fa, fn, fc, fb, fk⟩ := f
        obtain rfl : fb = wb bs L false := congrArg Prod.fst hmap7
        obtain rfl : fk = L := congrArg Prod.snd hmap7
        obtain ⟨t7, ht7, ho7⟩ := hin7 _ (List.mem_singleton.2 rfl)
        simp only at ho7
        obtain rfl : fn = n := by have := (RB.of_own ho7).1; rw [wb_len] at this; omega
        obtain ⟨g7, hA7, hg7, hc7⟩ := own_some hown7 (by simp)
        subst hA7
        have k0 := hc7 0 _ rfl
        have k1 := hc7 1 _ rfl
        have k2 := hc7 2 _ rfl
        have k3 := hc7 3 _ rfl
        simp only at k0 k2
        have hb57 := hx6.trans (hb7.mono hx6.size)
        have hB7 := hB5.below hb57
        have hq7 := RB.of_own (own_below hO5 hb57)
        have hf7 := RB.of_own ho7
        have hbb7 := hbb5.trans (hb57.mono hbb5.size)
        have lB := hB7.lt
        have rC : ∀ w', Below w7.heap.size w7 w' → w'.cell? ⟨g7, 0, none⟩ = some (.slice fa fn fc) ∧ w'.cell? ⟨g7, 1, none⟩ = some (.string ⟨#[]⟩) ∧ w'.cell? ⟨g7, 3, none⟩ = some (.bool true) := fun w' h => ⟨(h.cell (p := ⟨g7, 0, none⟩) hg7).trans k0, (h.cell (p := ⟨g7, 1, none⟩) hg7).trans k1, (h.cell (p := ⟨g7, 3, none⟩) hg7).trans k3⟩
        have rB : ∀ w', Below w7.heap.size w7 w' → ∀ i, w'.cell? ⟨w1.heap.size, i, none⟩ = #[Value.slice qa fn qc, .string ⟨#[]⟩][i]? := fun w' h i => (h.cell (p := ⟨w1.heap.size, i, none⟩) lB).trans (hB7.cell i)
        have hdr : Below w7.heap.size w7 w7.drew := ⟨rfl, rfl, rfl, Nat.le_refl _, fun _ _ => rfl⟩
        clear hown7 hmap7 hin7 ho7 hc7 hb7 hb57 hx6 hrn hvb hB7 hB5 hO5 HO HB k0 k1 k2 k3 hr5
        go_wp2_with fail
        refine region_all (Below w7.heap.size w7) (by kernel_rfl) (by kernel_rfl) (hdr) ?_
        repeat (first | (refine quiet_skip rfl ?_; (simp only [Act.put, List.setIfInBounds_toArray, List.set_cons_zero, List.set_cons_succ])) | (refine quiet_run ?_ rfl (fun w1 hw1 => ?_) ?_; rotate_left; (have r0 := (rC w1 hw1).1; have r1 := (rC w1 hw1).2.1; have r2 := (rC w1 hw1).2.2; have r3 := rB w1 hw1; go_simp; try (with_reducible rfl)); (simp only [Act.put, List.setIfInBounds_toArray, List.set_cons_zero, List.set_cons_succ])) | (refine quiet_call ?_ ?_ ?_ rfl (fun w1 hw1 => ?_) (fun w1 hw1 => ?_) ?_; rotate_left 3; (have r0 := (rC w1 hw1).1; have r1 := (rC w1 hw1).2.1; have r2 := (rC w1 hw1).2.2; have r3 := rB w1 hw1; go_simp; refine ⟨?_, ?_⟩ <;> with_reducible rfl); (first | (go_at_call 26; (with_reducible refine (sameAddr_c fa qa fn fn fc qc (wb bs fk false) (wb bs fk false) w1 (hf7.keep hw1) (hq7.keep hw1) (by omega)).mono ?_); rintro e w2 ⟨rfl, hb⟩; refine ⟨?_, hw1.trans (hb.mono hw1.size)⟩; with_reducible rfl) | (go_at_call 26; (refine (sameAddr_c fa qa fn fn fc qc (wb bs fk false) (wb bs fk false) w1 (hf7.keep hw1) (hq7.keep hw1) (by omega)).mono ?_); rintro e w2 ⟨rfl, hb⟩; refine ⟨?_, hw1.trans (hb.mono hw1.size)⟩; with_reducible rfl)); (simp only [Act.put, List.setIfInBounds_toArray, List.set_cons_zero, List.set_cons_succ])))
        refine wpQuiet_nil ?_
        intro w8 hw8
        have hbw := hbb7.trans (hw8.mono hbb7.size)
        go_wp2
        go_returns
        exact ⟨rfl, hbw⟩
  · rw [show (n == 4 || n == 16) = false by simpa using hl]
    go_wp2_with fail
    go_returns
    exact ⟨rfl, hb0⟩
end Go.Proofs.YtckfgdohpmllmaaDoor
