/-
  Contract of laws.samePlaces.
-/
import Derived.Test.YtocckokbdacdfaaDoorSteps
namespace Go.Proofs.YtocckokbdacdfaaDoor
open Go Go.RowKit
set_option maxHeartbeats 4000000 in
theorem samePlaces_c (A B : Option Addr) (n c d : Nat) (es fs : List En) (w : World) (h1 : RA w A n es) (h2 : RA w B n fs) (hn : n ≤ 1048576) (heq : es.map (·.bs) = fs.map (·.bs)) (hle : ∀ e ∈ es, e.n ≤ 9223372036854775807) :
    Calls Tryd.prog 16 #[.slice A n c, .slice B n d] w fun e w' => e = .returned (.bool true) ∧ Below w.heap.size w w' := by
  have HEQ := Lib.hid heq
  have HLE := Lib.hid hle
  clear heq hle
  go_enter Tryd.func16, Tryd.ntmps16
  go_wp2_with fail
  go_loopw [13] (fun i wr => ∃ i' : Nat, i' ≤ n ∧ i = .int .i64 i' ∧ Below w.heap.size w wr) (fun i _ => n - (intOf i).toNat)
  case atStart => exact ⟨0, Nat.zero_le _, rfl, Below.refl _ _⟩
  case round =>
    obtain ⟨j, hj, rfl, hbj⟩ := hrel
    by_cases hjm : j < n
    · obtain ⟨g1, o1, ex, hA1, hg1, hex, hx0, hx1, hbx⟩ := (h1.keep hbj).at hjm
      obtain ⟨g2, o2, ey, hA2, hg2, hey, hy0, hy1, hby⟩ := (h2.keep hbj).at hjm
      subst hA1 hA2
      have hlx := HLE.out ex (List.mem_of_getElem? hex)
      have hxy : ex.bs = ey.bs := by
        have e1 : (es.map (·.bs))[j]? = some ex.bs := by rw [List.getElem?_map, hex]; rfl
        have e2 : (fs.map (·.bs))[j]? = some ey.bs := by rw [List.getElem?_map, hey]; rfl
        rw [HEQ.out, e2] at e1
        injection e1 with e1
        exact e1.symm
      have HXY := Lib.hid hxy
      clear hex hey hxy
      have hdr2 : Below wr.heap.size wr wr.drew := ⟨rfl, rfl, rfl, Nat.le_refl _, fun _ _ => rfl⟩
      have HI := Lib.hid (show (0 : Int) ≤ j ∧ (j : Int) < (n : Int) by omega)
      go_wp2_with fail
      refine region_all (Below wr.heap.size wr) (by kernel_rfl) (by kernel_rfl) (hdr2) ?_
      repeat (first | (refine quiet_skip rfl ?_; (simp only [Act.put, List.setIfInBounds_toArray, List.set_cons_zero, List.set_cons_succ])) | (refine quiet_run ?_ rfl (fun w1 hw1 => ?_) ?_; rotate_left; (have r0 := HI.out; have r1 := (hw1.cell (p := ⟨g1, o1 + j * 2, none⟩) hg1).trans hx0; have r2 := (hw1.cell (p := ⟨g1, o1 + j * 2 + 1, none⟩) hg1).trans hx1; have r3 := (hw1.cell (p := ⟨g2, o2 + j * 2, none⟩) hg2).trans hy0; have r4 := (hw1.cell (p := ⟨g2, o2 + j * 2 + 1, none⟩) hg2).trans hy1; go_simp; try (with_reducible rfl)); (simp only [Act.put, List.setIfInBounds_toArray, List.set_cons_zero, List.set_cons_succ])) | (refine quiet_call ?_ ?_ ?_ rfl (fun w1 hw1 => ?_) (fun w1 hw1 => ?_) ?_; rotate_left 3; (have r0 := HI.out; have r1 := (hw1.cell (p := ⟨g1, o1 + j * 2, none⟩) hg1).trans hx0; have r2 := (hw1.cell (p := ⟨g1, o1 + j * 2 + 1, none⟩) hg1).trans hx1; have r3 := (hw1.cell (p := ⟨g2, o2 + j * 2, none⟩) hg2).trans hy0; have r4 := (hw1.cell (p := ⟨g2, o2 + j * 2 + 1, none⟩) hg2).trans hy1; go_simp; refine ⟨?_, ?_⟩ <;> with_reducible rfl); (first | (go_at_call 20; (with_reducible refine (sameAddr_c ex.a ey.a ex.n ey.n ex.c ey.c ex.bs ey.bs w1 (hbx.keep hw1) (hby.keep hw1) hlx).mono ?_); rintro e w2 ⟨rfl, hb⟩; refine ⟨?_, hw1.trans (hb.mono hw1.size)⟩; with_reducible rfl) | (go_at_call 20; (refine (sameAddr_c ex.a ey.a ex.n ey.n ex.c ey.c ex.bs ey.bs w1 (hbx.keep hw1) (hby.keep hw1) hlx).mono ?_); rintro e w2 ⟨rfl, hb⟩; refine ⟨?_, hw1.trans (hb.mono hw1.size)⟩; with_reducible rfl)); (simp only [Act.put, List.setIfInBounds_toArray, List.set_cons_zero, List.set_cons_succ])))
      refine wpQuiet_nil ?_
      intro w10 hw10
      rw [decide_eq_true HXY.out]
      have hbj2 := hbj.trans (hw10.mono hbj.size)
      clear HI hx0 hx1 hy0 hy1 hbx hby
      go_wp2
      go_roundw
      case rel => exact ⟨j + 1, by omega, by go_num, hbj2⟩
      case measure => simp [intOf]; omega
    · have hjm' : j = n := by omega
      go_wp2
      go_returns
      exact ⟨rfl, hbj⟩
end Go.Proofs.YtocckokbdacdfaaDoor
