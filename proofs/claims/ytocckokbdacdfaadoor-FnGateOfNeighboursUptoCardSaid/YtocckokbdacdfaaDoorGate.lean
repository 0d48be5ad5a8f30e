/-
  Contracts of the small functions of net/netip on addresses with ports, and of impl.port, laws.gateOrder.
-/
import Derived.Test.YtocckokbdacdfaaDoorSteps
namespace Go.Proofs.YtocckokbdacdfaaDoor
open Go Go.RowKit
theorem apFrom_c (h l : Int) (P : Option Addr) (p : Int) (w : World) :
    Calls Tryd.prog 49 #[.agg #[.int .u64 h, .int .u64 l, .pointer P], .int .u16 p] w fun e w' => e = .returned (.agg #[.int .u64 h, .int .u64 l, .pointer P, .int .u16 p]) ∧ Below w.heap.size w w' := by
  go_enter Tryd.func49, Tryd.ntmps49
  go_wp2
  go_returns
  exact ⟨rfl, by go_grown⟩
theorem apAddr_c (h l : Int) (P : Option Addr) (p : Int) (w : World) :
    Calls Tryd.prog 50 #[.agg #[.int .u64 h, .int .u64 l, .pointer P, .int .u16 p]] w fun e w' => e = .returned (.agg #[.int .u64 h, .int .u64 l, .pointer P]) ∧ Below w.heap.size w w' := by
  go_enter Tryd.func50, Tryd.ntmps50
  go_wp2
  go_returns
  exact ⟨rfl, by go_grown⟩
theorem apPort_c (h l : Int) (P : Option Addr) (p : Int) (w : World) :
    Calls Tryd.prog 52 #[.agg #[.int .u64 h, .int .u64 l, .pointer P, .int .u16 p]] w fun e w' => e = .returned (.int .u16 p) ∧ Below w.heap.size w w' := by
  go_enter Tryd.func52, Tryd.ntmps52
  go_wp2
  go_returns
  exact ⟨rfl, by go_grown⟩
theorem nan16_c (p : Int) (w : World) :
    Calls Tryd.prog 54 #[.int .u16 p] w fun e w' => e = .returned (.bool false) ∧ Below w.heap.size w w' := by
  go_enter Tryd.func54, Tryd.ntmps54
  go_wp2
  go_returns
  exact ⟨by simp, by go_grown⟩
theorem cmp16_c (p q : Int) (w : World) :
    Calls Tryd.prog 51 #[.int .u16 p, .int .u16 q] w fun e w' => e = .returned (.int .i64 (cmpI p q)) ∧ Below w.heap.size w w' := by
  obtain ⟨c, hc⟩ : ∃ c, c = cmpI p q := ⟨_, rfl⟩
  rw [← hc]
  go_enter Tryd.func51, Tryd.ntmps51
  go_wp2_with fail
  refine (nan16_c p w).mono ?_
  rintro e w1 ⟨rfl, hb1⟩
  go_wp2_with fail
  refine (nan16_c q w1).mono ?_
  rintro e w2 ⟨rfl, hb2⟩
  have b2 := hb1.trans (hb2.mono hb1.size)
  clear hb1 hb2
  unfold cmpI at hc
  by_cases g1 : p < q
  · rw [if_pos g1] at hc
    subst hc
    go_wp2
    go_returns
    exact ⟨rfl, b2⟩
  · rw [if_neg g1] at hc
    by_cases g2 : q < p
    · rw [if_pos g2] at hc
      subst hc
      go_wp2
      go_returns
      exact ⟨rfl, b2⟩
    · rw [if_neg g2] at hc
      subst hc
      go_wp2
      go_returns
      exact ⟨rfl, b2⟩
/-- How two addresses with ports compare. -/
def cmpG (a : List UInt8) (p : Int) (b : List UInt8) (q : Int) : Int := if cmpOf a b = 0 then cmpI p q else cmpOf a b
set_option maxHeartbeats 4000000 in
theorem apCompare_c (a b : List UInt8) (p q : Int) (z : ZP) (w : World) (hz : Zs w z) :
    Calls Tryd.prog 41 #[.agg #[.int .u64 (adOf a).h, .int .u64 (adOf a).l, .pointer (z.ptr (adOf a).k), .int .u16 p], .agg #[.int .u64 (adOf b).h, .int .u64 (adOf b).l, .pointer (z.ptr (adOf b).k), .int .u16 q]] w fun e w' => e = .returned (.int .i64 (cmpG a p b q)) ∧ Below w.heap.size w w' := by
  have hcc : cmpA (adOf a).k (adOf a).h (adOf a).l (adOf b).k (adOf b).h (adOf b).l = cmpOf a b := rfl
  obtain ⟨r, hr⟩ : ∃ r, r = cmpG a p b q := ⟨_, rfl⟩
  rw [← hr]
  unfold cmpG at hr
  have HR := Lib.hid hr
  have HC := Lib.hid hcc
  clear hr hcc
  go_enter Tryd.func41, Tryd.ntmps41
  go_wp2_with fail
  refine region_all (Boxes w [#[.int .u64 (adOf a).h, .int .u64 (adOf a).l, .pointer (z.ptr (adOf a).k), .int .u16 p], #[.int .u64 (adOf b).h, .int .u64 (adOf b).l, .pointer (z.ptr (adOf b).k), .int .u16 q]]) (by kernel_rfl) (by kernel_rfl) ((boxes2 _ _ _).drew) ?_
  repeat (first | (refine quiet_skip rfl ?_; (simp only [Act.put, List.setIfInBounds_toArray, List.set_cons_zero, List.set_cons_succ])) | (refine quiet_run ?_ rfl (fun w1 hw1 => ?_) ?_; rotate_left; (have r0 := hw1.b0; have r1 := hw1.b1; go_simp; try (with_reducible rfl)); (simp only [Act.put, List.setIfInBounds_toArray, List.set_cons_zero, List.set_cons_succ])) | (refine quiet_call ?_ ?_ ?_ rfl (fun w1 hw1 => ?_) (fun w1 hw1 => ?_) ?_; rotate_left 3; (have r0 := hw1.b0; have r1 := hw1.b1; go_simp; refine ⟨?_, ?_⟩ <;> with_reducible rfl); (first | (go_at_call 50; (with_reducible refine (apAddr_c _ _ _ _ w1).mono ?_); rintro e w2 ⟨rfl, hb⟩; refine ⟨?_, hw1.keep hb⟩; with_reducible rfl) | (go_at_call 24; (with_reducible refine (compare_c _ _ _ _ _ _ z w1 (hz.keep hw1.below)).mono ?_); rintro e w2 ⟨rfl, hb⟩; refine ⟨?_, hw1.keep hb⟩; with_reducible rfl) | (go_at_call 50; (refine (apAddr_c _ _ _ _ w1).mono ?_); rintro e w2 ⟨rfl, hb⟩; refine ⟨?_, hw1.keep hb⟩; with_reducible rfl) | (go_at_call 24; (refine (compare_c _ _ _ _ _ _ z w1 (hz.keep hw1.below)).mono ?_); rintro e w2 ⟨rfl, hb⟩; refine ⟨?_, hw1.keep hb⟩; with_reducible rfl)); (simp only [Act.put, List.setIfInBounds_toArray, List.set_cons_zero, List.set_cons_succ])))
  refine wpQuiet_nil ?_
  intro w1 hw1
  have b1 := hw1.below
  rw [HC.out]
  by_cases h0 : cmpOf a b = 0
  · have h1 := HR.out
    rw [if_pos h0] at h1
    rw [h0]
    have HR1 := Lib.hid h1
    clear h1 h0 HR HC
    go_wp2_with fail
    refine region_all (Boxes w [#[.int .u64 (adOf a).h, .int .u64 (adOf a).l, .pointer (z.ptr (adOf a).k), .int .u16 p], #[.int .u64 (adOf b).h, .int .u64 (adOf b).l, .pointer (z.ptr (adOf b).k), .int .u16 q]]) (by kernel_rfl) (by kernel_rfl) (hw1.drew) ?_
    repeat (first | (refine quiet_skip rfl ?_; (simp only [Act.put, List.setIfInBounds_toArray, List.set_cons_zero, List.set_cons_succ])) | (refine quiet_run ?_ rfl (fun w1 hw1 => ?_) ?_; rotate_left; (have r0 := hw1.b0; have r1 := hw1.b1; go_simp; try (with_reducible rfl)); (simp only [Act.put, List.setIfInBounds_toArray, List.set_cons_zero, List.set_cons_succ])) | (refine quiet_call ?_ ?_ ?_ rfl (fun w1 hw1 => ?_) (fun w1 hw1 => ?_) ?_; rotate_left 3; (have r0 := hw1.b0; have r1 := hw1.b1; go_simp; refine ⟨?_, ?_⟩ <;> with_reducible rfl); (first | (go_at_call 52; (with_reducible refine (apPort_c _ _ _ _ w1).mono ?_); rintro e w2 ⟨rfl, hb⟩; refine ⟨?_, hw1.keep hb⟩; with_reducible rfl) | (go_at_call 51; (with_reducible refine (cmp16_c _ _ w1).mono ?_); rintro e w2 ⟨rfl, hb⟩; refine ⟨?_, hw1.keep hb⟩; with_reducible rfl) | (go_at_call 52; (refine (apPort_c _ _ _ _ w1).mono ?_); rintro e w2 ⟨rfl, hb⟩; refine ⟨?_, hw1.keep hb⟩; with_reducible rfl) | (go_at_call 51; (refine (cmp16_c _ _ w1).mono ?_); rintro e w2 ⟨rfl, hb⟩; refine ⟨?_, hw1.keep hb⟩; with_reducible rfl)); (simp only [Act.put, List.setIfInBounds_toArray, List.set_cons_zero, List.set_cons_succ])))
    refine wpQuiet_nil ?_
    intro w2 hw2
    have b2 := hw2.below
    go_wp2
    go_returns
    exact ⟨by rw [HR1.out]; rfl, b2⟩
  · have h1 := HR.out
    rw [if_neg h0] at h1
    rw [← h1] at h0 ⊢
    have e0 : (r == 0) = false := by simpa using h0
    clear h1 HR HC
    go_wp2
    go_returns
    exact ⟨rfl, b1⟩
set_option maxHeartbeats 4000000 in
theorem port_c (A : Option Addr) (n c : Nat) (bs : List UInt8) (p : Int) (z : ZP) (w : World) (hz : Zs w z) (hr : RB w A n bs) :
    Calls Tryd.prog 40 #[.agg #[.slice A n c, .string ⟨#[]⟩, .int .u16 p]] w fun e w' => e = .returned (.agg #[.int .u64 (adOf bs).h, .int .u64 (adOf bs).l, .pointer (z.ptr (adOf bs).k), .int .u16 p]) ∧ Below w.heap.size w w' := by
  go_enter Tryd.func40, Tryd.ntmps40
  go_wp2_with fail
  refine region_tail (Boxes w [#[.slice A n c, .string ⟨#[]⟩, .int .u16 p], #[.int .u64 0, .int .u64 0, .pointer none, .int .u16 0]]) 6 (by kernel_rfl) (by kernel_rfl) ((boxes2 _ _ _).drew) ?_
  simp only [List.take_succ_cons, List.take_zero, List.drop_succ_cons, List.drop_zero]
  repeat (first | (refine quiet_skip rfl ?_; (simp only [Act.put, List.setIfInBounds_toArray, List.set_cons_zero, List.set_cons_succ])) | (refine quiet_run ?_ rfl (fun w1 hw1 => ?_) ?_; rotate_left; (have r0 := hw1.b0; go_simp; try (with_reducible rfl)); (simp only [Act.put, List.setIfInBounds_toArray, List.set_cons_zero, List.set_cons_succ])) | (refine quiet_call ?_ ?_ ?_ rfl (fun w1 hw1 => ?_) (fun w1 hw1 => ?_) ?_; rotate_left 3; (have r0 := hw1.b0; go_simp; refine ⟨?_, ?_⟩ <;> with_reducible rfl); (first | (go_at_call 23; (with_reducible refine (address_c A n c bs z w1 (hz.keep hw1.below) (hr.keep hw1.below)).mono ?_); rintro e w2 ⟨rfl, hb⟩; refine ⟨?_, hw1.keep hb⟩; with_reducible rfl) | (go_at_call 49; (with_reducible refine (apFrom_c _ _ _ _ w1).mono ?_); rintro e w2 ⟨rfl, hb⟩; refine ⟨?_, hw1.keep hb⟩; with_reducible rfl) | (go_at_call 23; (refine (address_c A n c bs z w1 (hz.keep hw1.below) (hr.keep hw1.below)).mono ?_); rintro e w2 ⟨rfl, hb⟩; refine ⟨?_, hw1.keep hb⟩; with_reducible rfl) | (go_at_call 49; (refine (apFrom_c _ _ _ _ w1).mono ?_); rintro e w2 ⟨rfl, hb⟩; refine ⟨?_, hw1.keep hb⟩; with_reducible rfl)); (simp only [Act.put, List.setIfInBounds_toArray, List.set_cons_zero, List.set_cons_succ])))
  refine wpQuiet_nil ?_
  intro w1 hw1
  have bb := hw1.below
  have r1 := hw1.b1
  have f1 := hw1.f1
  go_wp2
  refine bodyPost_ret (v := .agg #[.int .u64 (adOf bs).h, .int .u64 (adOf bs).l, .pointer (z.ptr (adOf bs).k), .int .u16 p]) (by simp [results, Tryd.results40, go_sem, r1]) rfl ?_
  exact ⟨rfl, by go_grown⟩
set_option maxHeartbeats 8000000 in
/-- PortCompareEach at a list of one. -/
theorem portEach1_c (A B : Option Addr) (n m c d : Nat) (xs bs : List UInt8) (p q : Int) (g cc : Nat) (z : ZP) (w : World) (hz : Zs w z) (ha : RB w A n xs) (hb : RB w B m bs) (hg : g < w.heap.size) (h0 : w.cell? ⟨g, 0, none⟩ = some (.slice B m d)) (h1 : w.cell? ⟨g, 1, none⟩ = some (.string ⟨#[]⟩)) (h2 : w.cell? ⟨g, 2, none⟩ = some (.int .u16 q)) :
    Calls Tryd.prog 27 #[.agg #[.slice A n c, .string ⟨#[]⟩, .int .u16 p], .slice (some ⟨g, 0, none⟩) 1 cc] w fun e w' => ∃ A' c', e = .returned (.slice A' 1 c') ∧ w'.ownsRow w.heap.size 3 1 (.slice A' 1 c') 1 [.int .i64 (cmpG xs p bs q)] ∧ Below w.heap.size w w' := by
  obtain ⟨i0, hi, hz0, hz1, hz2⟩ := info_parts infoI64
  go_enter Tryd.func27, Tryd.ntmps27
  go_wp2_with fail
  have hbx := (boxes1 (x0 := #[.slice A n c, .string ⟨#[]⟩, .int .u16 p]) w 39).alloc (.cells #[] 3)
  have hown := own_empty (w.alloc (.cells #[.slice A n c, .string ⟨#[]⟩, .int .u16 p] 39)) (w.heap.size + 1) (w.heap.size + 1) 3 1 (by simp) (Nat.le_refl _)
  generalize (w.alloc (.cells #[.slice A n c, .string ⟨#[]⟩, .int .u16 p] 39)).alloc (.cells #[] 3) = wr at *
  have hw := hbx.below
  have hg' : g < wr.heap.size := Nat.lt_of_lt_of_le hg hw.size
  replace h0 := (hw.cell (p := ⟨g, 0, none⟩) hg).trans h0
  replace h1 := (hw.cell (p := ⟨g, 1, none⟩) hg).trans h1
  replace h2 := (hw.cell (p := ⟨g, 2, none⟩) hg).trans h2
  have HO := Lib.hid hown
  clear hown
  refine wp_loop_rounds 2 ?_
  rw [rounds_succ]
  go_wp2_with fail
  refine region_mtail (Boxes wr [#[.slice B m d, .string ⟨#[]⟩, .int .u16 q]]) 5 (by kernel_rfl) (by kernel_rfl) ((boxes1 _ _).drew) ?_ (fun _ _ _ h => h) (Or.inl ⟨rfl, fun w1 => ?_⟩) ?_
  rotate_left
  (go_simp; with_reducible rfl)
  simp only [List.take_succ_cons, List.take_zero, List.drop_succ_cons, List.drop_zero, Act.put, List.setIfInBounds_toArray, List.set_cons_zero, List.set_cons_succ]
  repeat (first | (refine quiet_skip rfl ?_; (simp only [Act.put, List.setIfInBounds_toArray, List.set_cons_zero, List.set_cons_succ])) | (refine quiet_run ?_ rfl (fun w1 hw1 => ?_) ?_; rotate_left; (have r0 := hw1.b0; have r1 := (hbx.keep hw1.below).b0; go_simp; try (with_reducible rfl)); (simp only [Act.put, List.setIfInBounds_toArray, List.set_cons_zero, List.set_cons_succ])) | (refine quiet_call ?_ ?_ ?_ rfl (fun w1 hw1 => ?_) (fun w1 hw1 => ?_) ?_; rotate_left 3; (have r0 := hw1.b0; have r1 := (hbx.keep hw1.below).b0; go_simp; refine ⟨?_, ?_⟩ <;> with_reducible rfl); (first | (go_at_call 40; (with_reducible refine (port_c A n c xs p z w1 (hz.keep (hbx.keep hw1.below).below) (ha.keep (hbx.keep hw1.below).below)).mono ?_); rintro e w2 ⟨rfl, hb⟩; refine ⟨?_, hw1.keep hb⟩; with_reducible rfl) | (go_at_call 40; (with_reducible refine (port_c B m d bs q z w1 (hz.keep (hbx.keep hw1.below).below) (hb.keep (hbx.keep hw1.below).below)).mono ?_); rintro e w2 ⟨rfl, hb⟩; refine ⟨?_, hw1.keep hb⟩; with_reducible rfl) | (go_at_call 41; (with_reducible refine (apCompare_c xs bs p q z w1 (hz.keep (hbx.keep hw1.below).below)).mono ?_); rintro e w2 ⟨rfl, hb⟩; refine ⟨?_, hw1.keep hb⟩; with_reducible rfl) | (go_at_call 40; (refine (port_c A n c xs p z w1 (hz.keep (hbx.keep hw1.below).below) (ha.keep (hbx.keep hw1.below).below)).mono ?_); rintro e w2 ⟨rfl, hb⟩; refine ⟨?_, hw1.keep hb⟩; with_reducible rfl) | (go_at_call 40; (refine (port_c B m d bs q z w1 (hz.keep (hbx.keep hw1.below).below) (hb.keep (hbx.keep hw1.below).below)).mono ?_); rintro e w2 ⟨rfl, hb⟩; refine ⟨?_, hw1.keep hb⟩; with_reducible rfl) | (go_at_call 41; (refine (apCompare_c xs bs p q z w1 (hz.keep (hbx.keep hw1.below).below)).mono ?_); rintro e w2 ⟨rfl, hb⟩; refine ⟨?_, hw1.keep hb⟩; with_reducible rfl)); (simp only [Act.put, List.setIfInBounds_toArray, List.set_cons_zero, List.set_cons_succ])))
  refine wpQuiet_nil ?_
  intro w1 hw1
  have hown1 := own_below HO.out hw1.below
  have hbx1 := hbx.keep hw1.below
  have hs1 := hbx1.size
  have HR := Lib.hid (own_row_ge HO.out)
  clear hbx hw
  go_wp2_with ((at_builtin; refine append1 rfl _ _ 25 rfl (w.heap.size + 1) 3 i0 (.int .i64 0) 1 8 Tryd.underlying25 hi hz0 hz1 hz2 rfl (by decide) _ _ _ rfl (hown1) _ _ [.int .i64 (cmpG xs p bs q)] rfl (by simp) rfl rfl (by unfold maxLen; omega) (by omega) (by first | omega | (simp; omega)) ?_))
  intro v2 w2 hown2 hgrow
  obtain ⟨A2, c2, rfl⟩ := own_slice hown2
  have hb2 := ((hbx1.alloc _).grown hgrow (by simp; exact HR.out)).below
  clear hbx1 hown1 HO HR hgrow
  go_wp2_with fail
  rw [rounds_succ]
  go_wp2
  go_returns
  exact ⟨A2, c2, rfl, own_mono hown2 (by omega), hb2⟩
theorem gateOrder_c (A B : Option Addr) (n m c d : Nat) (xs bs : List UInt8) (p q : Int) (z : ZP) (w : World) (hz : Zs w z) (h1 : RB w A n xs) (h2 : RB w B m bs) :
    Calls Tryd.prog 19 #[.agg #[.slice A n c, .string ⟨#[]⟩, .int .u16 p], .agg #[.slice B m d, .string ⟨#[]⟩, .int .u16 q]] w fun e w' => e = .returned (.int .i64 (cmpG xs p bs q)) ∧ Below w.heap.size w w' := by
  go_enter Tryd.func19, Tryd.ntmps19
  go_wp2_with fail
  have hbx := boxes3 (x0 := #[.slice A n c, .string ⟨#[]⟩, .int .u16 p]) (x1 := #[.slice B m d, .string ⟨#[]⟩, .int .u16 q]) (x2 := #[.slice B m d, .string ⟨#[]⟩, .int .u16 q]) w 39 39 39
  refine (portEach1_c A B n m c d xs bs p q (w.heap.size + 1 + 1) _ z _ (hz.keep hbx.below) (h1.keep hbx.below) (h2.keep hbx.below) (by simp) (by rw [hbx.b2]; rfl) (by rw [hbx.b2]; rfl) (by rw [hbx.b2]; rfl)).mono ?_
  rintro e w1 ⟨A', c', rfl, hown, hb⟩
  obtain ⟨g, hA, hg, hc⟩ := own_some hown (by omega)
  subst hA
  have hc0 := hc 0 _ rfl
  have hbb := (hbx.keep hb).below
  clear hown hc hbx hb
  go_wp2
  go_returns
  exact ⟨rfl, hbb⟩
end Go.Proofs.YtocckokbdacdfaaDoor
