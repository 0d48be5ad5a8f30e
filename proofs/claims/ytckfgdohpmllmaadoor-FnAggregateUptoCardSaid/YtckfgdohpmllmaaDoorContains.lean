/-
  Contracts of impl.prefix and laws.contains.
-/
import Derived.Test.YtckfgdohpmllmaaDoorPfx
import Derived.Test.YtckfgdohpmllmaaDoorPlain
import Derived.Test.YtckfgdohpmllmaaDoorPlaces
import Derived.Test.YtckfgdohpmllmaaDoorApp
namespace Go.Proofs.YtckfgdohpmllmaaDoor
open Go Go.RowKit
theorem infoBool : (Tryd.prog.info? 4).map (fun i => (i.zero, i.size, i.bytes)) = some (some (.bool false), 1, 1) := by kernel_rfl
theorem bl_len {bs : List UInt8} (h : isLen bs.length) : (adOf bs).k ≠ none ∧ bl (adOf bs).k = ((8 * bs.length : Nat) : Int) := by
  rcases h with h | h
  · rw [ad4 h, h]; exact ⟨by simp, rfl⟩
  · rw [ad16 h, h]; exact ⟨by simp, rfl⟩
set_option maxRecDepth 100000 in
set_option maxHeartbeats 4000000 in
theorem prefix_c (A : Option Addr) (n c : Nat) (bs : List UInt8) (k : Nat) (z : ZP) (w : World) (hz : Zs w z) (hr : RB w A n bs) (hl : isLen bs.length) (hk : k ≤ 8 * bs.length) :
    Calls Tryd.prog 46 #[.agg #[.slice A n c, .string ⟨#[]⟩, .int .i64 k]] w fun e w' => e = .returned (.agg #[.int .u64 (adOf bs).h, .int .u64 (adOf bs).l, .pointer (z.ptr (adOf bs).k), .int .u8 ((k + 1 : Nat) : Int)]) ∧ Below w.heap.size w w' := by
  obtain ⟨l1, l2⟩ := bl_len hl
  have l3 : (k : Int) ≤ bl (adOf bs).k := by rw [l2]; exact_mod_cast hk
  go_enter Tryd.func46, Tryd.ntmps46
  go_wp2_with fail
  refine region_tail (Boxes w [#[.slice A n c, .string ⟨#[]⟩, .int .i64 k], #[.int .u64 0, .int .u64 0, .pointer none, .int .u8 0]]) 6 (by kernel_rfl) (by kernel_rfl) ((boxes2 _ _ _).drew) ?_
  simp only [List.take_succ_cons, List.take_zero, List.drop_succ_cons, List.drop_zero]
  repeat (first | (refine quiet_skip rfl ?_; (simp only [Act.put, List.setIfInBounds_toArray, List.set_cons_zero, List.set_cons_succ])) | (refine quiet_run ?_ rfl (fun w1 hw1 => ?_) ?_; rotate_left; (have r0 := hw1.b0; go_simp; try (with_reducible rfl)); (simp only [Act.put, List.setIfInBounds_toArray, List.set_cons_zero, List.set_cons_succ])) | (refine quiet_call ?_ ?_ ?_ rfl (fun w1 hw1 => ?_) (fun w1 hw1 => ?_) ?_; rotate_left 3; (have r0 := hw1.b0; go_simp; refine ⟨?_, ?_⟩ <;> with_reducible rfl); (first | (go_at_call 43; (with_reducible refine (address_c A n c bs z w1 (hz.keep hw1.below) (hr.keep hw1.below)).mono ?_); rintro e w2 ⟨rfl, hb⟩; refine ⟨?_, hw1.keep hb⟩; with_reducible rfl) | (go_at_call 60; (with_reducible refine (pfFrom_c _ _ _ k z w1 (hz.keep hw1.below) l1 l3).mono ?_); rintro e w2 ⟨rfl, hb⟩; refine ⟨?_, hw1.keep hb⟩; with_reducible rfl) | (go_at_call 43; (refine (address_c A n c bs z w1 (hz.keep hw1.below) (hr.keep hw1.below)).mono ?_); rintro e w2 ⟨rfl, hb⟩; refine ⟨?_, hw1.keep hb⟩; with_reducible rfl) | (go_at_call 60; (refine (pfFrom_c _ _ _ k z w1 (hz.keep hw1.below) l1 l3).mono ?_); rintro e w2 ⟨rfl, hb⟩; refine ⟨?_, hw1.keep hb⟩; with_reducible rfl)); (simp only [Act.put, List.setIfInBounds_toArray, List.set_cons_zero, List.set_cons_succ])))
  refine wpQuiet_nil ?_
  intro w1 hw1
  have bb := hw1.below
  have r1 := hw1.b1
  have f1 := hw1.f1
  go_wp2
  refine bodyPost_ret (v := .agg #[.int .u64 (adOf bs).h, .int .u64 (adOf bs).l, .pointer (z.ptr (adOf bs).k), .int .u8 ((k + 1 : Nat) : Int)]) (by simp [results, Tryd.results46, go_sem, r1]) rfl ?_
  exact ⟨rfl, by go_grown⟩
set_option maxRecDepth 100000 in
set_option maxHeartbeats 8000000 in
/-- ContainsEach at a list of one. -/
theorem containsEach1_c (A B : Option Addr) (n m c d : Nat) (ps bs : List UInt8) (k : Nat) (g cc : Nat) (z : ZP) (w : World) (hz : Zs w z) (ha : RB w A n ps) (hb : RB w B m bs) (hl : isLen ps.length) (hk : k ≤ 8 * ps.length) (hg : g < w.heap.size) (h0 : w.cell? ⟨g, 0, none⟩ = some (.slice B m d)) (h1 : w.cell? ⟨g, 1, none⟩ = some (.string ⟨#[]⟩)) :
    Calls Tryd.prog 42 #[.agg #[.slice A n c, .string ⟨#[]⟩, .int .i64 k], .slice (some ⟨g, 0, none⟩) 1 cc] w fun e w' => ∃ A' c', e = .returned (.slice A' 1 c') ∧ w'.ownsRow w.heap.size 4 1 (.slice A' 1 c') 1 [.bool (inP ps k bs)] ∧ Below w.heap.size w w' := by
  obtain ⟨i0, hi, hz0, hz1, hz2⟩ := info_parts infoBool
  go_enter Tryd.func42, Tryd.ntmps42
  go_wp2_with fail
  have hbx := boxes1 (x0 := #[.slice A n c, .string ⟨#[]⟩, .int .i64 k]) w 29
  have hown := World.ownsRow_nil (w.alloc (.cells #[.slice A n c, .string ⟨#[]⟩, .int .i64 k] 29)) (w.heap.size + 1) 4 1
  generalize w.alloc (.cells #[.slice A n c, .string ⟨#[]⟩, .int .i64 k] 29) = wr at *
  have hw := hbx.below
  have hg' : g < wr.heap.size := Nat.lt_of_lt_of_le hg hw.size
  replace h0 := (hw.cell (p := ⟨g, 0, none⟩) hg).trans h0
  replace h1 := (hw.cell (p := ⟨g, 1, none⟩) hg).trans h1
  have HO := Lib.hid hown
  clear hown
  refine wp_loop_rounds 2 ?_
  rw [rounds_succ]
  go_wp2_with fail
  refine region_mtail (Boxes wr [#[.slice B m d, .string ⟨#[]⟩]]) 5 (by kernel_rfl) (by kernel_rfl) ((boxes1 _ _).drew) ?_ (fun _ _ _ h => h) (Or.inl ⟨rfl, fun w1 => ?_⟩) ?_
  rotate_left
  (go_simp; with_reducible rfl)
  simp only [List.take_succ_cons, List.take_zero, List.drop_succ_cons, List.drop_zero, Act.put, List.setIfInBounds_toArray, List.set_cons_zero, List.set_cons_succ]
  repeat (first | (refine quiet_skip rfl ?_; (simp only [Act.put, List.setIfInBounds_toArray, List.set_cons_zero, List.set_cons_succ])) | (refine quiet_run ?_ rfl (fun w1 hw1 => ?_) ?_; rotate_left; (have r0 := hw1.b0; have r1 := (hbx.keep hw1.below).b0; go_simp; try (with_reducible rfl)); (simp only [Act.put, List.setIfInBounds_toArray, List.set_cons_zero, List.set_cons_succ])) | (refine quiet_call ?_ ?_ ?_ rfl (fun w1 hw1 => ?_) (fun w1 hw1 => ?_) ?_; rotate_left 3; (have r0 := hw1.b0; have r1 := (hbx.keep hw1.below).b0; go_simp; refine ⟨?_, ?_⟩ <;> with_reducible rfl); (first | (go_at_call 46; (with_reducible refine (prefix_c A n c ps k z w1 (hz.keep (hbx.keep hw1.below).below) (ha.keep (hbx.keep hw1.below).below) hl hk).mono ?_); rintro e w2 ⟨rfl, hb⟩; refine ⟨?_, hw1.keep hb⟩; with_reducible rfl) | (go_at_call 43; (with_reducible refine (address_c B m d bs z w1 (hz.keep (hbx.keep hw1.below).below) (hb.keep (hbx.keep hw1.below).below)).mono ?_); rintro e w2 ⟨rfl, hb⟩; refine ⟨?_, hw1.keep hb⟩; with_reducible rfl) | (go_at_call 52; (with_reducible refine (pfContains_c ps bs k z w1 (hz.keep (hbx.keep hw1.below).below) hl hk).mono ?_); rintro e w2 ⟨rfl, hb⟩; refine ⟨?_, hw1.keep hb⟩; with_reducible rfl) | (go_at_call 46; (refine (prefix_c A n c ps k z w1 (hz.keep (hbx.keep hw1.below).below) (ha.keep (hbx.keep hw1.below).below) hl hk).mono ?_); rintro e w2 ⟨rfl, hb⟩; refine ⟨?_, hw1.keep hb⟩; with_reducible rfl) | (go_at_call 43; (refine (address_c B m d bs z w1 (hz.keep (hbx.keep hw1.below).below) (hb.keep (hbx.keep hw1.below).below)).mono ?_); rintro e w2 ⟨rfl, hb⟩; refine ⟨?_, hw1.keep hb⟩; with_reducible rfl) | (go_at_call 52; (refine (pfContains_c ps bs k z w1 (hz.keep (hbx.keep hw1.below).below) hl hk).mono ?_); rintro e w2 ⟨rfl, hb⟩; refine ⟨?_, hw1.keep hb⟩; with_reducible rfl)); (simp only [Act.put, List.setIfInBounds_toArray, List.set_cons_zero, List.set_cons_succ])))
  refine wpQuiet_nil ?_
  intro w1 hw1
  have hown1 := own_below HO.out hw1.below
  have hbx1 := hbx.keep hw1.below
  have hs1 := hbx1.size
  have HR := Lib.hid (own_row_ge HO.out)
  clear hbx hw
  go_wp2_with ((at_builtin; refine append1 rfl _ _ 45 rfl (w.heap.size + 1) 4 i0 (.bool false) 1 1 Tryd.underlying45 hi hz0 hz1 hz2 rfl (by decide) _ _ _ rfl (hown1) _ _ [.bool (inP ps k bs)] rfl (by simp) rfl rfl (by unfold maxLen; omega) (by omega) (by first | omega | (simp; omega)) ?_))
  intro v2 w2 hown2 hgrow
  obtain ⟨A2, c2, rfl⟩ := own_slice hown2
  have hb2 := ((hbx1.alloc _).grown hgrow (by simp; exact HR.out)).below
  clear hbx1 hown1 HO HR hgrow
  go_wp2_with fail
  rw [rounds_succ]
  go_wp2
  go_returns
  exact ⟨A2, c2, rfl, own_mono hown2 (by omega), hb2⟩
/-- A new address without a zone. -/
def FreshAd (n : Nat) (bs : List UInt8) (v : Value) (w : World) : Prop := ∃ A c, v = .agg #[.slice A n c, .string ⟨#[]⟩] ∧ RB w A n bs
theorem FreshAd.keep {n : Nat} {bs : List UInt8} {v : Value} {w w' : World} (h : FreshAd n bs v w) (hb : Below w.heap.size w w') : FreshAd n bs v w' := by
  obtain ⟨A, c, h1, h2⟩ := h
  exact ⟨A, c, h1, h2.keep hb⟩
theorem FreshAd.rb {n : Nat} {bs : List UInt8} {A : Option Addr} {c : Nat} {w : World} (h : FreshAd n bs (.agg #[.slice A n c, .string ⟨#[]⟩]) w) : RB w A n bs := by
  obtain ⟨A', c', h1, h2⟩ := h
  injection h1 with h1
  simp only [Array.mk.injEq, List.cons.injEq, Value.slice.injEq, and_true] at h1
  obtain ⟨rfl, -⟩ := h1
  exact h2
/-- A row that a literal has laid. -/
theorem own_lit (w : World) (cs : Array Value) (t : TypeId) (size n B : Nat) (hB : B ≤ w.heap.size) (hs : cs.size = n * size) (hn : n ≤ 1000) : (w.alloc (.cells cs t)).ownsRow B t size (.slice (some ⟨w.heap.size, 0, none⟩) n n) n cs.toList :=
  ⟨by simp [hs], .inr ⟨w.heap.size, n, cs, rfl, hB, heap_alloc_new w _, Nat.le_refl _, by unfold maxLen; omega, hs, by rw [← hs, ← Array.length_toList, List.take_length]⟩⟩
/-- A row that a literal has laid, as a lasting fact. -/
def LitRow (B : Nat) (t : TypeId) (size n : Nat) (cs : List Value) (v : Value) (w : World) : Prop := ∃ g, v = .slice (some ⟨g, 0, none⟩) n n ∧ w.ownsRow B t size (.slice (some ⟨g, 0, none⟩) n n) n cs
theorem LitRow.keep {B : Nat} {t : TypeId} {size n : Nat} {cs : List Value} {v : Value} {w w' : World} (h : LitRow B t size n cs v w) (hb : Below w.heap.size w w') : LitRow B t size n cs v w' := by
  obtain ⟨g, h1, h2⟩ := h
  exact ⟨g, h1, own_below h2 hb⟩
theorem LitRow.own {B : Nat} {t : TypeId} {size n g : Nat} {cs : List Value} {w : World} (h : LitRow B t size n cs (.slice (some ⟨g, 0, none⟩) n n) w) : w.ownsRow B t size (.slice (some ⟨g, 0, none⟩) n n) n cs := by
  obtain ⟨g', h1, h2⟩ := h
  injection h1 with h1
  injection h1 with h1
  injection h1 with h1
  subst h1
  exact h2
set_option maxRecDepth 100000 in
set_option maxHeartbeats 4000000 in
theorem contains_c (A B : Option Addr) (n m c d : Nat) (ps bs : List UInt8) (k : Nat) (z : ZP) (w : World) (hz : Zs w z) (ha : RB w A n ps) (hb : RB w B m bs) (hB : B = none → m = 0 ∧ d = 0) (hm : m ≤ 140737488355328) (hl : isLen ps.length) (hk : k ≤ 8 * ps.length) :
    Calls Tryd.prog 21 #[.agg #[.slice A n c, .string ⟨#[]⟩, .int .i64 k], .slice B m d] w fun e w' => e = .returned (.bool (inP ps k bs)) ∧ Below w.heap.size w w' := by
  go_enter Tryd.func21, Tryd.ntmps21
  go_wp2_with fail
  refine region_pick (Boxes w [#[.slice A n c, .string ⟨#[]⟩, .int .i64 k]]) [(0, false, none), (1, false, none), (2, true, none), (3, true, none)] 4 (by kernel_rfl) (by kernel_rfl) (fun w1 w2 h hb => h.keep hb) ((boxes1 _ _).drew) ?_
  simp only [pickOps, List.getElem?_cons_zero, List.getElem?_cons_succ]
  repeat (first | (refine t_skip rfl ?_; (simp only [Act.put, List.setIfInBounds_toArray, List.set_cons_zero, List.set_cons_succ])) | (refine t_run ?_ rfl (fun w1 hw1 => ?_) ?_; rotate_left; (have r0 := hw1.b0; go_simp; try (with_reducible rfl)); (simp only [Act.put, List.setIfInBounds_toArray, List.set_cons_zero, List.set_cons_succ])))
  refine t_fresh ?_ ?_ (fun v w' => FreshAd m bs v w') (by rfl) (fun w1 hw1 => ?_) (fun v w w' h hb => h.keep hb) (fun w1 hw1 => ?_) ?_
  rotate_left 2
  (go_simp; refine ⟨?_, ?_⟩ <;> with_reducible rfl)
  (go_at_call 24; (with_reducible refine (plain_c B m d bs w1 (hb.keep hw1.below) hB hm).mono ?_); rintro e w2 ⟨A8, c8, rfl, hown8, hb8⟩; exact ⟨_, rfl, ⟨A8, c8, rfl, RB.of_own hown8⟩, hb8⟩)
  rintro v8 ⟨-, -, A8, c8, rfl, -⟩
  (simp only [Act.put, List.setIfInBounds_toArray, List.set_cons_zero, List.set_cons_succ])
  refine t_new (fun v w' => LitRow w.heap.size 27 2 1 [.slice A8 m c8, .string ⟨#[]⟩] v w') (by rfl) (fun v w w' h hb => h.keep hb) (fun w1 hw1 => ?_) ?_
  refine ⟨?_, ?_, ?_, ?_, ?_⟩
  rotate_left 2
  (go_simp; first | (refine ⟨?_, ?_⟩ <;> with_reducible rfl) | with_reducible rfl)
  exact ⟨_, rfl, own_lit w1 #[.slice A8 m c8, .string ⟨#[]⟩] _ 2 1 _ hw1.1.below.size rfl (by omega)⟩
  exact (Below.refl _ _).alloc (Nat.le_refl _) _
  rintro v9 ⟨-, -, g9, rfl, -⟩
  (simp only [Act.put, List.setIfInBounds_toArray, List.set_cons_zero, List.set_cons_succ])
  intro w1 ⟨⟨hw1, hf1⟩, hl1⟩
  simp only [List.drop_succ_cons, List.drop_zero]
  have hbx2 := hw1.below
  have hr8 := hf1.rb
  obtain ⟨g', hg1, hg2, hg3⟩ := own_some hl1.own (by omega)
  injection hg1 with hg1
  injection hg1 with hg1
  subst hg1
  clear hf1 hl1
  go_wp2_with fail
  refine (containsEach1_c A A8 n m c c8 ps bs k g9 _ z w1 (hz.keep hbx2) (ha.keep hbx2) hr8 hl hk hg2 (hg3 0 _ rfl) (hg3 1 _ rfl)).mono ?_
  rintro e w2 ⟨A', c', rfl, hown, hb2⟩
  obtain ⟨g, hA, hg, hc⟩ := own_some hown (by omega)
  subst hA
  have hc0 := hc 0 _ rfl
  have hbb := hbx2.trans (hb2.mono hbx2.size)
  clear hown hc hb2 hbx2 hw1
  go_wp2
  go_returns
  exact ⟨rfl, hbb⟩
end Go.Proofs.YtckfgdohpmllmaaDoor
