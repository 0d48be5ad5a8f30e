/-
  Contract of AsSlice.
-/
import Derived.Test.YtaofindlomkbbaaDoorMem
import Derived.Test.YtaofindlomkbbaaDoorNum
import Derived.Test.YtaofindlomkbbaaDoorRegion2
namespace Go.Proofs.YtaofindlomkbbaaDoor
open Go Go.RowKit
def bytesOf (x : Ad) : List UInt8 :=
  match x.k with
  | none => []
  | some false => Lib.beBytes 4 (x.l % 4294967296)
  | some true => Lib.beBytes 8 x.h ++ Lib.beBytes 8 x.l
/-- The element types of blocks that hold bytes. -/
def byteTag (t : TypeId) : Prop := t = 5 ∨ t = 92 ∨ t = 94
theorem byteTag.ne {t u : TypeId} (h : byteTag t) (h1 : 5 ≠ u) (h2 : 92 ≠ u) (h3 : 94 ≠ u) : t ≠ u := by rcases h with rfl | rfl | rfl <;> assumption
def SlicePost (w : World) (bs : List UInt8) (e : Ending) (w' : World) : Prop :=
  ∃ A' n c' t, e = .returned (.slice A' n c') ∧ byteTag t ∧ w'.ownsRow w.heap.size t 1 (.slice A' n c') n (Lib.byteCells bs) ∧ Below w.heap.size w w'
theorem own_last (W : World) (b base n nq : Nat) (t : TypeId) (cur : Array Value) (hb : b = W.heap.size) (hbase : base ≤ b) (hs : cur.size = n) (hm : n ≤ maxLen) : ((W.alloc (.cells cur t)).drewN nq).ownsRow base t 1 (.slice (some ⟨b, 0, none⟩) n n) n cur.toList := by
  subst hb
  refine ⟨by simp; omega, .inr ⟨W.heap.size, n, cur, rfl, hbase, heap_alloc_new W _, Nat.le_refl _, hm, by omega, ?_⟩⟩
  rw [List.take_of_length_le (by simp; omega)]
theorem below_drewN' {B : Nat} {a w : World} (h : Below B a w) (n : Nat) : Below B a (w.drewN n) := ⟨h.os, h.tape, h.output, h.size, h.block⟩
theorem set_last (W : World) (b nq i : Nat) (t : TypeId) (cs : Array Value) (v : Value) (hb : b = W.heap.size) : ((W.alloc (.cells cs t)).drewN nq).setCell ⟨b, i, none⟩ v = (W.alloc (.cells (cs.setIfInBounds i v) t)).drewN nq :=
  (show ((W.alloc (.cells cs t)).drewN nq).setCell ⟨b, i, none⟩ v = ((W.alloc (.cells cs t)).setCell ⟨b, i, none⟩ v).drewN nq from rfl).trans (congrArg (fun x : World => x.drewN nq) (World.setCell_alloc_at _ _ _ _ _ hb))
theorem asSlice0 (h l : Int) (z : ZP) (w : World) (hz : Zs w z) :
    Calls Tryd.prog 46 #[.agg #[.int .u64 h, .int .u64 l, .pointer (z.ptr none)]] w (SlicePost w []) := by
  obtain ⟨s0, s1, s2, q4, q6, h4, h6, h0, hne, hne', p4, p6⟩ := hz.lay
  clear hz
  rw [ptr0]
  go_enter Tryd.func46, Tryd.ntmps46
  go_wp2
  go_returns
  exact ⟨none, 0, 0, 5, rfl, .inl rfl, World.ownsRow_nil _ _ _ _, by go_grown⟩
theorem asSlice4 (h l : Nat) (z : ZP) (w : World) (hz : Zs w z) :
    Calls Tryd.prog 46 #[.agg #[.int .u64 h, .int .u64 l, .pointer (z.ptr (some false))]] w (SlicePost w (Lib.beBytes 4 (l % 4294967296))) := by
  obtain ⟨s0, s1, s2, q4, q6, h4, h6, h0, hne, hne', p4, p6⟩ := hz.lay
  clear hz
  rw [ptr4]
  obtain ⟨bs, hbs⟩ : ∃ bs, bs = Lib.beBytes 4 (l % 4294967296) := ⟨_, rfl⟩
  rw [← hbs]
  have hbl : bs.length = 4 := by rw [hbs]; exact Lib.beBytes_length 4 _
  match bs, hbl with
  | [b0, b1, b2, b3], _ =>
    have HB := Lib.hid hbs
    clear hbs
    have hlt : l % 4294967296 < 4294967296 := Nat.mod_lt _ (by decide)
    go_enter Tryd.func46, Tryd.ntmps46
    go_wp2_with fail
    refine region_tail (fun w' => ∃ n, w' = ((w.alloc (.cells #[.int .u64 h, .int .u64 l, .pointer (some ⟨z.b4, z.o4, none⟩)] 54)).alloc (.cells #[.int .u8 0, .int .u8 0, .int .u8 0, .int .u8 0] 92)).drewN n) 5 (by kernel_rfl) (by kernel_rfl) (⟨1, rfl⟩) ?_
    simp only [List.take_succ_cons, List.take_zero, List.drop_succ_cons, List.drop_zero]
    repeat (first | (refine quiet_skip rfl ?_; (simp only [Act.put, List.setIfInBounds_toArray, List.set_cons_zero, List.set_cons_succ])) | (refine quiet_run ?_ rfl (fun w1 hw1 => ?_) ?_; rotate_left; (obtain ⟨nq, rfl⟩ := hw1; go_simp; try (with_reducible rfl)); (simp only [Act.put, List.setIfInBounds_toArray, List.set_cons_zero, List.set_cons_succ])))
    refine wpQuiet_nil ?_
    intro w1 hw1
    obtain ⟨nq, rfl⟩ := hw1
    go_wp2_with fail
    rw [show ((l : Int) % 4294967296) = ((l % 4294967296 : Nat) : Int) by omega]
    refine (put32_c (w.heap.size + 1) 0 4 4 (l % 4294967296) hlt (.int .u8 0) (.int .u8 0) (.int .u8 0) (.int .u8 0) _ (by decide) (by simp [go_sem]) (by simp [go_sem]) (by simp [go_sem]) (by simp [go_sem]) (by simp [go_sem]) (by simp [go_sem]) (by simp [go_sem]) (by simp [go_sem])).mono ?_
    rintro e w1 ⟨rfl, hw⟩
    rw [← HB.out] at hw
    have hw2 : w1 = ((w.alloc (.cells #[.int .u64 h, .int .u64 l, .pointer (some ⟨z.b4, z.o4, none⟩)] 54)).alloc (.cells #[.int .u8 b0.toNat, .int .u8 b1.toNat, .int .u8 b2.toNat, .int .u8 b3.toNat] 92)).drewN nq := by
      rw [hw]
      simp only [Lib.byteCells, World.setCells, List.map_cons, List.map_nil, Nat.zero_add]
      rw [set_last _ _ _ _ _ _ _ (by simp), set_last _ _ _ _ _ _ _ (by simp), set_last _ _ _ _ _ _ _ (by simp), set_last _ _ _ _ _ _ _ (by simp)]
      rfl
    clear hw
    subst hw2
    go_wp2
    go_returns
    exact ⟨_, 4, 4, 92, rfl, .inr (.inl rfl), own_last _ _ _ _ _ _ _ (by simp) (by omega) rfl (by simp [maxLen]), below_drewN' (by go_grown) _⟩
set_option maxRecDepth 100000 in
set_option maxHeartbeats 4000000 in
theorem asSlice16 (h l : Nat) (z : ZP) (w : World) (hz : Zs w z) (hh : h < 18446744073709551616) (hl : l < 18446744073709551616) :
    Calls Tryd.prog 46 #[.agg #[.int .u64 h, .int .u64 l, .pointer (z.ptr (some true))]] w (SlicePost w (Lib.beBytes 8 h ++ Lib.beBytes 8 l)) := by
  obtain ⟨s0, s1, s2, q4, q6, h4, h6, h0, hne, hne', p4, p6⟩ := hz.lay
  clear hz
  rw [ptr6]
  obtain ⟨bs, hbs⟩ : ∃ bs, bs = Lib.beBytes 8 h := ⟨_, rfl⟩
  obtain ⟨cs, hcs⟩ : ∃ cs, cs = Lib.beBytes 8 l := ⟨_, rfl⟩
  rw [← hbs, ← hcs]
  have hbl : bs.length = 8 := by rw [hbs]; exact Lib.beBytes_length 8 _
  have hcl : cs.length = 8 := by rw [hcs]; exact Lib.beBytes_length 8 _
  match bs, hbl, cs, hcl with
  | [b0, b1, b2, b3, b4, b5, b6, b7], _, [b8, b9, b10, b11, b12, b13, b14, b15], _ =>
    have HB := Lib.hid hbs
    have HC := Lib.hid hcs
    clear hbs hcs
    go_enter Tryd.func46, Tryd.ntmps46
    go_wp2_with fail
    refine region_tail (fun w' => ∃ n, w' = ((w.alloc (.cells #[.int .u64 h, .int .u64 l, .pointer (some ⟨z.b6, z.o6, none⟩)] 54)).alloc (.cells #[.int .u8 0, .int .u8 0, .int .u8 0, .int .u8 0, .int .u8 0, .int .u8 0, .int .u8 0, .int .u8 0, .int .u8 0, .int .u8 0, .int .u8 0, .int .u8 0, .int .u8 0, .int .u8 0, .int .u8 0, .int .u8 0] 94)).drewN n) 4 (by kernel_rfl) (by kernel_rfl) (⟨1, rfl⟩) ?_
    simp only [List.take_succ_cons, List.take_zero, List.drop_succ_cons, List.drop_zero]
    repeat (first | (refine quiet_skip rfl ?_; (simp only [Act.put, List.setIfInBounds_toArray, List.set_cons_zero, List.set_cons_succ])) | (refine quiet_run ?_ rfl (fun w1 hw1 => ?_) ?_; rotate_left; (obtain ⟨nq, rfl⟩ := hw1; go_simp; try (with_reducible rfl)); (simp only [Act.put, List.setIfInBounds_toArray, List.set_cons_zero, List.set_cons_succ])))
    refine wpQuiet_nil ?_
    intro w1 hw1
    obtain ⟨nq, rfl⟩ := hw1
    go_wp2_with fail
    refine (put64_c (w.heap.size + 1) 0 8 16 h hh (.int .u8 0) (.int .u8 0) (.int .u8 0) (.int .u8 0) (.int .u8 0) (.int .u8 0) (.int .u8 0) (.int .u8 0) _ (by decide) (by simp [go_sem]) (by simp [go_sem]) (by simp [go_sem]) (by simp [go_sem]) (by simp [go_sem]) (by simp [go_sem]) (by simp [go_sem]) (by simp [go_sem]) (by simp [go_sem]) (by simp [go_sem]) (by simp [go_sem]) (by simp [go_sem]) (by simp [go_sem]) (by simp [go_sem]) (by simp [go_sem]) (by simp [go_sem])).mono ?_
    rintro e w1 ⟨rfl, hw⟩
    rw [← HB.out] at hw
    have hw2 : w1 = ((w.alloc (.cells #[.int .u64 h, .int .u64 l, .pointer (some ⟨z.b6, z.o6, none⟩)] 54)).alloc (.cells #[.int .u8 b0.toNat, .int .u8 b1.toNat, .int .u8 b2.toNat, .int .u8 b3.toNat, .int .u8 b4.toNat, .int .u8 b5.toNat, .int .u8 b6.toNat, .int .u8 b7.toNat, .int .u8 0, .int .u8 0, .int .u8 0, .int .u8 0, .int .u8 0, .int .u8 0, .int .u8 0, .int .u8 0] 94)).drewN nq := by
      rw [hw]
      simp only [Lib.byteCells, World.setCells, List.map_cons, List.map_nil, Nat.zero_add]
      rw [set_last _ _ _ _ _ _ _ (by simp), set_last _ _ _ _ _ _ _ (by simp), set_last _ _ _ _ _ _ _ (by simp), set_last _ _ _ _ _ _ _ (by simp), set_last _ _ _ _ _ _ _ (by simp), set_last _ _ _ _ _ _ _ (by simp), set_last _ _ _ _ _ _ _ (by simp), set_last _ _ _ _ _ _ _ (by simp)]
      rfl
    clear hw
    subst hw2
    go_wp2_with fail
    refine region_tail (fun w' => ∃ n, w' = ((w.alloc (.cells #[.int .u64 h, .int .u64 l, .pointer (some ⟨z.b6, z.o6, none⟩)] 54)).alloc (.cells #[.int .u8 b0.toNat, .int .u8 b1.toNat, .int .u8 b2.toNat, .int .u8 b3.toNat, .int .u8 b4.toNat, .int .u8 b5.toNat, .int .u8 b6.toNat, .int .u8 b7.toNat, .int .u8 0, .int .u8 0, .int .u8 0, .int .u8 0, .int .u8 0, .int .u8 0, .int .u8 0, .int .u8 0] 94)).drewN n) 4 (by kernel_rfl) (by kernel_rfl) (⟨nq + 1, rfl⟩) ?_
    simp only [List.take_succ_cons, List.take_zero, List.drop_succ_cons, List.drop_zero]
    repeat (first | (refine quiet_skip rfl ?_; (simp only [Act.put, List.setIfInBounds_toArray, List.set_cons_zero, List.set_cons_succ])) | (refine quiet_run ?_ rfl (fun w1 hw1 => ?_) ?_; rotate_left; (obtain ⟨nq, rfl⟩ := hw1; go_simp; try (with_reducible rfl)); (simp only [Act.put, List.setIfInBounds_toArray, List.set_cons_zero, List.set_cons_succ])))
    refine wpQuiet_nil ?_
    intro w1 hw1
    clear nq
    obtain ⟨nq, rfl⟩ := hw1
    go_wp2_with fail
    refine (put64_c (w.heap.size + 1) 8 8 8 l hl (.int .u8 0) (.int .u8 0) (.int .u8 0) (.int .u8 0) (.int .u8 0) (.int .u8 0) (.int .u8 0) (.int .u8 0) _ (by decide) (by simp [go_sem]) (by simp [go_sem]) (by simp [go_sem]) (by simp [go_sem]) (by simp [go_sem]) (by simp [go_sem]) (by simp [go_sem]) (by simp [go_sem]) (by simp [go_sem]) (by simp [go_sem]) (by simp [go_sem]) (by simp [go_sem]) (by simp [go_sem]) (by simp [go_sem]) (by simp [go_sem]) (by simp [go_sem])).mono ?_
    rintro e w1 ⟨rfl, hw⟩
    rw [← HC.out] at hw
    have hw2 : w1 = ((w.alloc (.cells #[.int .u64 h, .int .u64 l, .pointer (some ⟨z.b6, z.o6, none⟩)] 54)).alloc (.cells #[.int .u8 b0.toNat, .int .u8 b1.toNat, .int .u8 b2.toNat, .int .u8 b3.toNat, .int .u8 b4.toNat, .int .u8 b5.toNat, .int .u8 b6.toNat, .int .u8 b7.toNat, .int .u8 b8.toNat, .int .u8 b9.toNat, .int .u8 b10.toNat, .int .u8 b11.toNat, .int .u8 b12.toNat, .int .u8 b13.toNat, .int .u8 b14.toNat, .int .u8 b15.toNat] 94)).drewN nq := by
      rw [hw]
      simp only [Lib.byteCells, World.setCells, List.map_cons, List.map_nil]
      rw [set_last _ _ _ _ _ _ _ (by simp), set_last _ _ _ _ _ _ _ (by simp), set_last _ _ _ _ _ _ _ (by simp), set_last _ _ _ _ _ _ _ (by simp), set_last _ _ _ _ _ _ _ (by simp), set_last _ _ _ _ _ _ _ (by simp), set_last _ _ _ _ _ _ _ (by simp), set_last _ _ _ _ _ _ _ (by simp)]
      rfl
    clear hw
    subst hw2
    go_wp2
    go_returns
    exact ⟨_, 16, 16, 94, rfl, .inr (.inr rfl), own_last _ _ _ _ _ _ _ (by simp) (by omega) rfl (by simp [maxLen]), below_drewN' (by go_grown) _⟩
theorem asSlice_c (x : Ad) (z : ZP) (w : World) (hz : Zs w z) (hh : x.h < 18446744073709551616) (hl : x.l < 18446744073709551616) :
    Calls Tryd.prog 46 #[.agg #[.int .u64 x.h, .int .u64 x.l, .pointer (z.ptr x.k)]] w (SlicePost w (bytesOf x)) := by
  obtain ⟨h, l, k⟩ := x
  rcases k with _ | _ | _
  · exact asSlice0 h l z w hz
  · exact asSlice4 h l z w hz
  · exact asSlice16 h l z w hz hh hl
end Go.Proofs.YtaofindlomkbbaaDoor
