/-
  Contracts of laws.steps, sameGate, sameGates, allYes.
-/
import Derived.Test.YtaofindlomkbbaaDoorGCutW
namespace Go.Proofs.YtaofindlomkbbaaDoor
open Go Go.RowKit
theorem i64_and1023 (n : Int) : bits .and .i64 n 1023 = n % 1024 := by
  have h1023 : (BitVec.ofInt 64 1023).toNat = 2 ^ 10 - 1 := by decide
  have key : (BitVec.ofInt 64 n &&& BitVec.ofInt 64 1023).toNat = (n % ((2 ^ 64 : Nat) : Int)).toNat % 2 ^ 10 := by
    rw [BitVec.toNat_and, BitVec.toNat_ofInt, h1023, Nat.and_two_pow_sub_one_eq_mod]
  show IntKind.i64.wrap ((BitVec.ofInt 64 n &&& BitVec.ofInt 64 1023).toNat : Nat) = n % 1024
  rw [key, IntKind.wrap_i64]
  omega
def stepsN (n : Int) : Nat := (n % 1024).toNat
theorem stepsN_lt (n : Int) : stepsN n < 1024 := by unfold stepsN; omega
theorem steps_c (n : Int) (w : World) : Calls Tryd.prog 13 #[.int .i64 n] w fun e w' => e = .returned (.int .i64 (stepsN n)) ∧ Below w.heap.size w w' := by
  have h : bits .and .i64 n 1023 = (stepsN n : Int) := by rw [i64_and1023]; unfold stepsN; omega
  generalize stepsN n = m at *
  go_enter Tryd.func13, Tryd.ntmps13
  go_wp2
  go_returns
  exact ⟨rfl, Below.refl _ _⟩
set_option maxRecDepth 100000 in
theorem sameGate_c (A B : Option Addr) (n m c d : Nat) (bs cs : List UInt8) (k j : Nat) (w : World) (h1 : RB w A n bs) (h2 : RB w B m cs) (hn : n ≤ 9223372036854775807) :
    Calls Tryd.prog 20 #[.agg #[.slice A n c, .string ⟨#[]⟩, .int .u16 k], .agg #[.slice B m d, .string ⟨#[]⟩, .int .u16 j]] w fun e w' => e = .returned (.bool (decide ((bs, k) = (cs, j)))) ∧ Below w.heap.size w w' := by
  have hbx := boxes2 (x0 := #[.slice A n c, .string ⟨#[]⟩, .int .u16 k]) (x1 := #[.slice B m d, .string ⟨#[]⟩, .int .u16 j]) w 30 30
  go_enter Tryd.func20, Tryd.ntmps20
  go_wp2_with fail
  refine (sameAddr_c A B n m c d bs cs _ (h1.keep hbx.below) (h2.keep hbx.below) hn).mono ?_
  rintro e w1 ⟨rfl, hb⟩
  have hw1 := hbx.keep hb
  have r0 := hw1.b0
  have r1 := hw1.b1
  have bb := hw1.below
  clear hbx hb hw1
  by_cases hbc : bs = cs
  · rw [show decide (bs = cs) = true by simpa using hbc]
    by_cases hkj : k = j
    · subst hkj
      go_wp2
      go_returns
      exact ⟨by simp [hbc], bb⟩
    · have q1 : ((k : Int) == j) = false := by simp; omega
      have q2 : (k == j) = false := by simpa using hkj
      go_wp2
      go_returns
      exact ⟨by simp [hkj], bb⟩
  · rw [show decide (bs = cs) = false by simpa using hbc]
    go_wp2
    go_returns
    exact ⟨by simp [hbc], bb⟩
set_option maxRecDepth 100000 in
set_option maxHeartbeats 8000000 in
/-- Lists of the same addresses with ports are the same. -/
theorem sameGates_c (A B : Option Addr) (n c d : Nat) (es fs : List Gt) (w : World) (h1 : RG w A n es) (h2 : RG w B n fs) (hv : ∀ e ∈ es, e.n ≤ 9223372036854775807) (he : es.map Gt.is = fs.map Gt.is) (hn : n ≤ 9223372036854775807) :
    Calls Tryd.prog 14 #[.slice A n c, .slice B n d] w fun e w' => e = .returned (.bool true) ∧ Below w.heap.size w w' := by
  have HE := Lib.hid he
  clear he
  go_enter Tryd.func14, Tryd.ntmps14
  go_wp2_with fail
  go_loopw [13] (fun i wr => ∃ (j : Nat), j ≤ n ∧ i = .int .i64 j ∧ Below w.heap.size w wr) (fun i _ => n - (intOf i).toNat)
  case atStart => exact ⟨0, Nat.zero_le _, rfl, Below.refl _ _⟩
  case round =>
    obtain ⟨j, hj, rfl, hbb⟩ := hrel
    by_cases hlt : j < n
    · obtain ⟨g, o, e, hA, hg, hek, hc0, hc1, hc2, hbe⟩ := (h1.keep hbb).at hlt
      subst hA
      obtain ⟨g', o', f, hB, hg', hfk, hd0, hd1, hd2, hbf⟩ := (h2.keep hbb).at hlt
      subst hB
      have hef : e.is = f.is := by
        have h3 : (es.map Gt.is)[j]? = some e.is := by rw [List.getElem?_map, hek]; rfl
        rw [HE.out, List.getElem?_map, hfk] at h3
        injection h3 with h3
        exact h3.symm
      have hen : e.n ≤ 9223372036854775807 := hv e (List.mem_of_getElem? hek)
      have k1 := fun w' (h : Below wr.heap.size wr w') => sameGate_c e.a f.a e.n f.n e.c f.c e.bs f.bs e.p f.p w' (hbe.keep h) (hbf.keep h) hen
      have h4 : decide ((e.bs, e.p) = (f.bs, f.p)) = true := by simpa [Gt.is] using hef
      simp only [h4] at k1
      have rE : ∀ w', Below wr.heap.size wr w' → w'.cell? ⟨g, o + j * 3, none⟩ = some (.slice e.a e.n e.c) ∧ w'.cell? ⟨g, o + j * 3 + 1, none⟩ = some (.string ⟨#[]⟩) ∧ w'.cell? ⟨g, o + j * 3 + 2, none⟩ = some (.int .u16 e.p) := fun w' h =>
        ⟨(h.cell (p := ⟨g, o + j * 3, none⟩) hg).trans hc0, (h.cell (p := ⟨g, o + j * 3 + 1, none⟩) hg).trans hc1, (h.cell (p := ⟨g, o + j * 3 + 2, none⟩) hg).trans hc2⟩
      have rF : ∀ w', Below wr.heap.size wr w' → w'.cell? ⟨g', o' + j * 3, none⟩ = some (.slice f.a f.n f.c) ∧ w'.cell? ⟨g', o' + j * 3 + 1, none⟩ = some (.string ⟨#[]⟩) ∧ w'.cell? ⟨g', o' + j * 3 + 2, none⟩ = some (.int .u16 f.p) := fun w' h =>
        ⟨(h.cell (p := ⟨g', o' + j * 3, none⟩) hg').trans hd0, (h.cell (p := ⟨g', o' + j * 3 + 1, none⟩) hg').trans hd1, (h.cell (p := ⟨g', o' + j * 3 + 2, none⟩) hg').trans hd2⟩
      have q1 : (0 : Int) ≤ j ∧ (j : Int) < n := by omega
      have HQ := Lib.hid q1
      have hdr : Below wr.heap.size wr wr.drew := ⟨rfl, rfl, rfl, Nat.le_refl _, fun _ _ => rfl⟩
      clear hek hfk hef h4 hc0 hc1 hc2 hd0 hd1 hd2 q1
      go_wp2_with fail
      refine region_pick (Below wr.heap.size wr) [(0, false, none), (1, false, none), (2, false, none), (3, false, none), (4, false, none), (5, false, none), (6, false, none), (7, false, none), (8, false, none), (9, false, none)] 10 (by kernel_rfl) (by kernel_rfl) (fun w w' h hb => h.trans (hb.mono h.size)) (hdr) ?_
      simp only [pickOps, List.getElem?_cons_zero, List.getElem?_cons_succ]
      repeat (first | (refine t_skip rfl ?_; (simp only [Act.put, List.setIfInBounds_toArray, List.set_cons_zero, List.set_cons_succ])) | (refine t_run ?_ rfl (fun w1 hw1 => ?_) ?_; rotate_left; (have r0 := (rE w1 hw1).1; have r1 := (rE w1 hw1).2.1; have r2 := (rE w1 hw1).2.2; have r3 := (rF w1 hw1).1; have r4 := (rF w1 hw1).2.1; have r5 := (rF w1 hw1).2.2; have r6 := HQ.out; go_simp; try (with_reducible rfl)); (simp only [Act.put, List.setIfInBounds_toArray, List.set_cons_zero, List.set_cons_succ])) | (refine t_call ?_ ?_ ?_ rfl (fun w1 hw1 => ?_) (fun w1 hw1 => ?_) ?_; rotate_left 3; (have r0 := (rE w1 hw1).1; have r1 := (rE w1 hw1).2.1; have r2 := (rE w1 hw1).2.2; have r3 := (rF w1 hw1).1; have r4 := (rF w1 hw1).2.1; have r5 := (rF w1 hw1).2.2; have r6 := HQ.out; go_simp; refine ⟨?_, ?_⟩ <;> with_reducible rfl); (first | (go_at_call 20; (with_reducible refine (k1 w1 hw1).mono ?_); rintro e w2 ⟨rfl, hb⟩; refine ⟨?_, hb⟩; with_reducible rfl) | (go_at_call 20; (refine (k1 w1 hw1).mono ?_); rintro e w2 ⟨rfl, hb⟩; refine ⟨?_, hb⟩; with_reducible rfl)); (simp only [Act.put, List.setIfInBounds_toArray, List.set_cons_zero, List.set_cons_succ])))
      intro w9 hw9
      simp only [List.drop_succ_cons, List.drop_zero]
      have hb9 := hbb.trans (hw9.mono hbb.size)
      clear rE rF k1 hdr
      go_wp2
      go_roundw
      case rel => exact ⟨j + 1, by omega, by go_num, hb9⟩
      case measure => simp [intOf]; omega
    · obtain rfl : j = n := by omega
      go_wp2
      go_returns
      exact ⟨rfl, hbb⟩
set_option maxRecDepth 100000 in
/-- Answers that are all yes. -/
theorem allYes_c (A : Option Addr) (n c : Nat) (os : List GOut) (w : World) (h : RO w A n os) (ha : ∀ o ∈ os, o.ok = true) (hn : n ≤ 9223372036854775807) :
    Calls Tryd.prog 15 #[.slice A n c, .int .i64 n] w fun e w' => e = .returned (.bool true) ∧ Below w.heap.size w w' := by
  go_enter Tryd.func15, Tryd.ntmps15
  go_wp2_with fail
  go_loopw [9] (fun i wr => ∃ (j : Nat), j ≤ n ∧ i = .int .i64 j ∧ Below w.heap.size w wr) (fun i _ => n - (intOf i).toNat)
  case atStart => exact ⟨0, Nat.zero_le _, rfl, Below.refl _ _⟩
  case round =>
    obtain ⟨j, hj, rfl, hbb⟩ := hrel
    by_cases hlt : j < n
    · obtain ⟨g, o, x, hA, hg, hox, hc0⟩ := (h.keep hbb).at hlt
      subst hA
      rw [ha x (List.mem_of_getElem? hox)] at hc0
      clear hox
      go_wp2
      go_roundw
      case rel => exact ⟨j + 1, by omega, by go_num, hbb⟩
      case measure => simp [intOf]; omega
    · obtain rfl : j = n := by omega
      go_wp2
      go_returns
      exact ⟨by simp, hbb⟩
/-- What ParsePortEach hands back, as a new value of a region. -/
def EachT (n : Nat) (os : List GOut) (v : Value) (w : World) : Prop := ∃ A c A2 c2 es, v = .tuple #[.slice A n c, .slice A2 n c2] ∧ RG w A n es ∧ RO w A2 n os ∧ es.map Gt.is = os.map GOut.is
theorem EachT.keep {n : Nat} {os : List GOut} {v : Value} {w w' : World} (h : EachT n os v w) (hb : Below w.heap.size w w') : EachT n os v w' := by
  obtain ⟨A, c, A2, c2, es, h1, h2, h3, h4⟩ := h
  exact ⟨A, c, A2, c2, es, h1, h2.keep hb, h3.keep hb, h4⟩
theorem EachT.out {n c c2 : Nat} {A A2 : Option Addr} {os : List GOut} {w : World} (h : EachT n os (.tuple #[.slice A n c, .slice A2 n c2]) w) : ∃ es, RG w A n es ∧ RO w A2 n os ∧ es.map Gt.is = os.map GOut.is := by
  obtain ⟨A', c', A2', c2', es, h1, h2, h3, h4⟩ := h
  injection h1 with h1
  simp only [Array.mk.injEq, List.cons.injEq, Value.slice.injEq, and_true, true_and] at h1
  obtain ⟨⟨rfl, -⟩, rfl, -⟩ := h1
  exact ⟨es, h2, h3, h4⟩
theorem portEach_t (A : Option Addr) (n c : Nat) (ts : List ByteArray) (os : List GOut) (z : ZP) (w : World) (hz : Zs w z) (ht : RT w A n ts) (ho : os.length = n) (hr : ∀ (i : Nat) t o, ts[i]? = some t → os[i]? = some o → GReads z w t o) (hn : n ≤ 1099511627776) :
    Calls Tryd.prog 11 #[.slice A n c] w fun e w' => ∃ v, e = .returned v ∧ EachT n os v w' ∧ Below w.heap.size w w' := by
  refine (portEach_c A n c ts os z w hz ht ho hr hn).mono ?_
  rintro e w' ⟨A1, c1, es, A2, c2, rfl, hown, hok, hmap, hin, hb⟩
  have hel : es.length = n := by have := congrArg List.length hmap; rw [List.length_map, List.length_map] at this; omega
  rw [hel] at hown
  rw [ho] at hok
  refine ⟨_, rfl, ⟨A1, c1, A2, c2, es, ?_, RG.of_ownT hown hel hin, ⟨ho, RC.of_own hok⟩, hmap⟩, hb⟩
  rw [hel, ho]
theorem portEach_1 (g : Nat) (T : ByteArray) (o : GOut) (z : ZP) (w : World) (hz : Zs w z) {B : Nat} (ht : w.ownsRow B 9 1 (.slice (some ⟨g, 0, none⟩) 1 1) 1 [.string T]) (hr : GReads z w T o) :
    Calls Tryd.prog 11 #[.slice (some ⟨g, 0, none⟩) 1 1] w fun e w' => ∃ v, e = .returned v ∧ EachT 1 [o] v w' ∧ Below w.heap.size w w' := by
  refine portEach_t (some ⟨g, 0, none⟩) 1 1 [T] [o] z w hz ⟨rfl, RC.of_own ht⟩ rfl (fun i t o' h1 h2 => ?_) (by omega)
  cases i with
  | zero =>
    simp only [List.getElem?_cons_zero, Option.some.injEq] at h1 h2
    subst h1
    subst h2
    exact hr
  | succ i => simp at h1
end Go.Proofs.YtaofindlomkbbaaDoor
