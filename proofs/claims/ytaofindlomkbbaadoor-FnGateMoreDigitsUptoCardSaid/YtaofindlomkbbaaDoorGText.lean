/-
  Contracts: impl.port, impl.PortStrings, laws.gateText, laws.lastColon.
-/
import Derived.Test.YtaofindlomkbbaaDoorGStr
import Derived.Test.YtaofindlomkbbaaDoorPlaces
import Derived.Test.YtaofindlomkbbaaDoorRegion2
namespace Go.Proofs.YtaofindlomkbbaaDoor
open Go Go.RowKit
theorem gStr_c (bs : List UInt8) (u : Nat) (z : ZP) (w : World) (hz : Zs w z) (hl : isLen bs.length) (hu : u < 65536) (hpw : PW w) :
    Calls Tryd.prog 22 #[.agg #[.int .u64 (adOf bs).h, .int .u64 (adOf bs).l, .pointer (z.ptr (adOf bs).k), .int .u16 u]] w fun e w' => e = .returned (.string ⟨(gT bs u).toArray⟩) ∧ Below w.heap.size w w' := by
  unfold gT
  rw [← ipT_ad hl]
  rcases hl with hl | hl
  · have e : (adOf bs).k = some false := by rw [ad4 hl]
    rw [e, if_pos hl]
    exact gStr4 _ _ u z w hz hu hpw
  · have e : (adOf bs).k = some true := by rw [ad16 hl]
    rw [e, if_neg (by omega)]
    unfold ipT
    simp only
    by_cases h : (adOf bs).h = 0 ∧ (adOf bs).l / 4294967296 = 65535
    · rw [if_pos h]; exact gStr46 _ _ u z w hz hu hpw h.1 h.2
    · rw [if_neg h]; exact gStr6 _ _ u z w hz hu hpw h
theorem apFrom_c (h l u : Int) (P : Option Addr) (w : World) :
    Calls Tryd.prog 33 #[.agg #[.int .u64 h, .int .u64 l, .pointer P], .int .u16 u] w fun e w' => e = .returned (.agg #[.int .u64 h, .int .u64 l, .pointer P, .int .u16 u]) ∧ Below w.heap.size w w' := by
  go_enter Tryd.func33, Tryd.ntmps33
  go_wp2
  go_returns
  exact ⟨rfl, by go_grown⟩
set_option maxRecDepth 100000 in
set_option maxHeartbeats 4000000 in
theorem port_c (A : Option Addr) (n c : Nat) (bs : List UInt8) (u : Nat) (z : ZP) (w : World) (hz : Zs w z) (hr : RB w A n bs) :
    Calls Tryd.prog 21 #[.agg #[.slice A n c, .string ⟨#[]⟩, .int .u16 u]] w fun e w' => e = .returned (.agg #[.int .u64 (adOf bs).h, .int .u64 (adOf bs).l, .pointer (z.ptr (adOf bs).k), .int .u16 u]) ∧ Below w.heap.size w w' := by
  go_enter Tryd.func21, Tryd.ntmps21
  go_wp2_with fail
  refine region_tail (Boxes w [#[.slice A n c, .string ⟨#[]⟩, .int .u16 u], #[.int .u64 0, .int .u64 0, .pointer none, .int .u16 0]]) 6 (by kernel_rfl) (by kernel_rfl) ((boxes2 _ _ _).drew) ?_
  simp only [List.take_succ_cons, List.take_zero, List.drop_succ_cons, List.drop_zero]
  repeat (first | (refine quiet_skip rfl ?_; (simp only [Act.put, List.setIfInBounds_toArray, List.set_cons_zero, List.set_cons_succ])) | (refine quiet_run ?_ rfl (fun w1 hw1 => ?_) ?_; rotate_left; (have r0 := hw1.b0; go_simp; try (with_reducible rfl)); (simp only [Act.put, List.setIfInBounds_toArray, List.set_cons_zero, List.set_cons_succ])) | (refine quiet_call ?_ ?_ ?_ rfl (fun w1 hw1 => ?_) (fun w1 hw1 => ?_) ?_; rotate_left 3; (have r0 := hw1.b0; go_simp; refine ⟨?_, ?_⟩ <;> with_reducible rfl); (first | (go_at_call 34; (with_reducible refine (address_c A n c bs z w1 (hz.keep hw1.below) (hr.keep hw1.below)).mono ?_); rintro e w2 ⟨rfl, hb⟩; refine ⟨?_, hw1.keep hb⟩; with_reducible rfl) | (go_at_call 33; (with_reducible refine (apFrom_c _ _ _ _ w1).mono ?_); rintro e w2 ⟨rfl, hb⟩; refine ⟨?_, hw1.keep hb⟩; with_reducible rfl) | (go_at_call 34; (refine (address_c A n c bs z w1 (hz.keep hw1.below) (hr.keep hw1.below)).mono ?_); rintro e w2 ⟨rfl, hb⟩; refine ⟨?_, hw1.keep hb⟩; with_reducible rfl) | (go_at_call 33; (refine (apFrom_c _ _ _ _ w1).mono ?_); rintro e w2 ⟨rfl, hb⟩; refine ⟨?_, hw1.keep hb⟩; with_reducible rfl)); (simp only [Act.put, List.setIfInBounds_toArray, List.set_cons_zero, List.set_cons_succ])))
  refine wpQuiet_nil ?_
  intro w1 hw1
  have bb := hw1.below
  have r1 := hw1.b1
  have f1 := hw1.f1
  go_wp2
  refine bodyPost_ret (v := .agg #[.int .u64 (adOf bs).h, .int .u64 (adOf bs).l, .pointer (z.ptr (adOf bs).k), .int .u16 u]) (by simp [results, Tryd.results21, go_sem, r1]) rfl ?_
  exact ⟨rfl, by go_grown⟩
theorem infoStr : (Tryd.prog.info? 9).map (fun i => (i.zero, i.size, i.bytes)) = some (some (.string ⟨#[]⟩), 1, 16) := by kernel_rfl
set_option maxRecDepth 100000 in
set_option maxHeartbeats 8000000 in
theorem portStr1_c (g c : Nat) (A : Option Addr) (n d : Nat) (bs : List UInt8) (u : Nat) (z : ZP) (w : World) (hz : Zs w z) (hr : RB w A n bs) (hl : isLen bs.length) (hu : u < 65536) (hpw : PW w) (hg : g < w.heap.size)
    (c0 : w.cell? ⟨g, 0, none⟩ = some (.slice A n d)) (c1 : w.cell? ⟨g, 1, none⟩ = some (.string ⟨#[]⟩)) (c2 : w.cell? ⟨g, 2, none⟩ = some (.int .u16 u)) :
    Calls Tryd.prog 16 #[.slice (some ⟨g, 0, none⟩) 1 c] w fun e w' => ∃ g' c', e = .returned (.slice (some ⟨g', 0, none⟩) 1 c') ∧ g' < w'.heap.size ∧ w'.cell? ⟨g', 0, none⟩ = some (.string ⟨(gT bs u).toArray⟩) ∧ Below w.heap.size w w' := by
  obtain ⟨i0, hi, hz0, hz1, hz2⟩ := info_parts infoStr
  have ho : (w.alloc (.cells #[] 9)).ownsRow w.heap.size 9 1 (.slice (some ⟨w.heap.size, 0, none⟩) 0 0) 0 [] := own_lit w #[] _ 1 0 _ (Nat.le_refl _) rfl (by omega)
  have HO := Lib.hid ho
  clear ho
  go_enter Tryd.func16, Tryd.ntmps16
  go_wp2_with fail
  go_loopw [3, 9] (fun v i wr => ∃ j : Nat, j ≤ 1 ∧ i = .int .i64 j ∧ Hid (wr.ownsRow w.heap.size 9 1 v j (([gT bs u].take j).map fun t => Value.string ⟨t.toArray⟩)) ∧ Hid (Below w.heap.size w wr)) (fun _ i _ => 1 - (intOf i).toNat)
  case atStart => exact ⟨0, by omega, rfl, HO, Lib.hid ((Below.refl _ _).alloc (Nat.le_refl _) _)⟩
  case round =>
    obtain ⟨j, hj, rfl, hown, hbb⟩ := hrel
    by_cases hlt : j < 1
    · obtain rfl : j = 0 := by omega
      have d0 := (hbb.out.cell (p := ⟨g, 0, none⟩) hg).trans c0
      have d1 := (hbb.out.cell (p := ⟨g, 1, none⟩) hg).trans c1
      have d2 := (hbb.out.cell (p := ⟨g, 2, none⟩) hg).trans c2
      have hgr := Nat.lt_of_lt_of_le hg hbb.out.size
      have hxa : Below wr.heap.size wr (wr.alloc (.cells #[.slice A n d, .string ⟨#[]⟩, .int .u16 u] 30)) := (Below.refl _ _).alloc (Nat.le_refl _) _
      have HQ := Lib.hid (And.intro (hbb.out.trans (hxa.mono hbb.out.size)) (And.intro (own_below hown.out hxa) (And.intro (hr.keep (hbb.out.trans (hxa.mono hbb.out.size))) (hz.keep (hbb.out.trans (hxa.mono hbb.out.size))))))
      clear hxa hown hbb
      rw [show (((0 : Nat) : Int)) = 0 from rfl]
      go_wp2_with fail
      refine (port_c A n d bs u z _ HQ.out.2.2.2 HQ.out.2.2.1).mono ?_
      rintro e1 w2 ⟨rfl, hb2⟩
      have HR := Lib.hid (And.intro (HQ.out.1.trans (hb2.mono HQ.out.1.size)) (own_below HQ.out.2.1 hb2))
      clear hb2 d0 d1 d2 HQ
      go_wp2_with fail
      refine (gStr_c bs u z w2 (hz.keep HR.out.1) hl hu (hpw.keep HR.out.1)).mono ?_
      rintro e1 w3 ⟨rfl, hb3⟩
      have hb13 := HR.out.1.trans (hb3.mono HR.out.1.size)
      have ho3 := own_below HR.out.2 hb3
      have hsz3 := hb13.size
      clear hb3 HR
      go_wp2_with ((at_builtin; refine append1 rfl _ _ 32 rfl (w.heap.size) 9 i0 (.string ⟨#[]⟩) 1 16 Tryd.underlying32 hi hz0 hz1 hz2 rfl (by decide) _ _ _ rfl (ho3) _ _ [.string ⟨(gT bs u).toArray⟩] rfl (by simp) rfl rfl (by unfold maxLen; omega) (by omega) (by first | omega | (simp; omega)) ?_))
      intro v4 w4 hown4 hgr4
      have hxb : Below w3.heap.size w3 (w3.alloc (.cells #[.string ⟨(gT bs u).toArray⟩] 9)) := (Below.refl _ _).alloc (Nat.le_refl _) _
      have hb4 : Below w.heap.size w w4 := (hb13.trans (hxb.mono hsz3)).grown hgr4 (Nat.le_trans hsz3 hxb.size) (own_row_ge ho3)
      have G1 := Lib.hid hown4
      have G2 := Lib.hid hb4
      clear hown4 hgr4 hxb ho3 hb4
      go_wp2
      go_roundw
      case rel => exact ⟨1, by omega, rfl, G1, G2⟩
      case measure => simp [intOf]
    · obtain rfl : j = 1 := by omega
      obtain ⟨A3, c3, rfl⟩ := own_slice hown.out
      obtain ⟨g', hA', hg', hc'⟩ := own_some hown.out (by omega)
      subst hA'
      have hcell := hc' 0 (.string ⟨(gT bs u).toArray⟩) rfl
      have HF := Lib.hid (And.intro hg' (And.intro hcell hbb.out))
      clear hg' hcell hc' hown hbb
      go_wp2
      go_returns
      exact ⟨g', c3, rfl, HF.out.1, HF.out.2.1, HF.out.2.2⟩
set_option maxRecDepth 100000 in
set_option maxHeartbeats 8000000 in
theorem gateText_c (A : Option Addr) (n d : Nat) (bs : List UInt8) (u : Nat) (z : ZP) (w : World) (hz : Zs w z) (hr : RB w A n bs) (hl : isLen bs.length) (hu : u < 65536) (hpw : PW w) :
    Calls Tryd.prog 8 #[.agg #[.slice A n d, .string ⟨#[]⟩, .int .u16 u]] w fun e w' => e = .returned (.string ⟨(gT bs u).toArray⟩) ∧ Below w.heap.size w w' := by
  have hbx := boxes2 (x0 := #[.slice A n d, .string ⟨#[]⟩, .int .u16 u]) (x1 := #[.slice A n d, .string ⟨#[]⟩, .int .u16 u]) w 30 30
  have HX := Lib.hid hbx
  clear hbx
  go_enter Tryd.func8, Tryd.ntmps8
  go_wp2_with fail
  have hb1 := HX.out.below
  have b1 := HX.out.b1
  refine (portStr1_c (w.heap.size + 1) 1 A n d bs u z _ (hz.keep hb1) (hr.keep hb1) hl hu (hpw.keep hb1) (by simp) (by rw [b1]; rfl) (by rw [b1]; rfl) (by rw [b1]; rfl)).mono ?_
  rintro e w2 ⟨g', c', rfl, hg', hcell, hb2⟩
  have HB := Lib.hid (hb1.trans (hb2.mono hb1.size))
  clear hb1 b1 hb2 HX
  go_wp2
  go_returns
  exact ⟨rfl, HB.out⟩
end Go.Proofs.YtaofindlomkbbaaDoor
