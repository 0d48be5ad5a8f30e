/-
  Contract of impl.fromPort.
-/
import Derived.Test.YtaofindlomkbbaaDoorGPP
import Derived.Test.YtaofindlomkbbaaDoorPfx
import Derived.Test.YtaofindlomkbbaaDoorRegion4
import Derived.Test.YtaofindlomkbbaaDoorPlaces
import Derived.Test.YtaofindlomkbbaaDoorFromAddr
namespace Go.Proofs.YtaofindlomkbbaaDoor
open Go Go.RowKit
theorem bytes_adOf {bs : List UInt8} (h : isLen bs.length) : bytesOf (adOf bs) = bs := by
  have hlt := beNat_lt bs
  rcases h with h | h
  · rw [ad4 h]
    unfold bytesOf
    simp only
    rw [h] at hlt
    rw [show (281470681743360 + Lib.beNat bs) % 4294967296 = Lib.beNat bs by omega, ← h, beBytes_beNat]
  · rw [ad16 h]
    unfold bytesOf
    simp only
    rw [h, pow16] at hlt
    apply beNat_inj 16 _ _ (by rw [List.length_append, Lib.beBytes_length, Lib.beBytes_length]) h
    rw [beNat_append, Lib.beBytes_length, beNat_beBytes 8 _ (by show _ < 18446744073709551616; omega), beNat_beBytes 8 _ (by show _ < 18446744073709551616; omega)]
    show Lib.beNat bs / 2 ^ 64 * 18446744073709551616 + _ = _
    omega
theorem apAddr_c (h l : Int) (P : Option Addr) (u : Int) (w : World) :
    Calls Tryd.prog 31 #[.agg #[.int .u64 h, .int .u64 l, .pointer P, .int .u16 u]] w fun e w' => e = .returned (.agg #[.int .u64 h, .int .u64 l, .pointer P]) ∧ Below w.heap.size w w' := by
  go_enter Tryd.func31, Tryd.ntmps31
  go_wp2
  go_returns
  exact ⟨rfl, by go_grown⟩
theorem apPort_c (h l : Int) (P : Option Addr) (u : Int) (w : World) :
    Calls Tryd.prog 32 #[.agg #[.int .u64 h, .int .u64 l, .pointer P, .int .u16 u]] w fun e w' => e = .returned (.int .u16 u) ∧ Below w.heap.size w w' := by
  go_enter Tryd.func32, Tryd.ntmps32
  go_wp2
  go_returns
  exact ⟨rfl, by go_grown⟩
/-- A new address without a zone, of the call's own, in whatever row of bytes. -/
def FreshT (B n : Nat) (bs : List UInt8) (v : Value) (w : World) : Prop := ∃ A c t, v = .agg #[.slice A n c, .string ⟨#[]⟩] ∧ byteTag t ∧ w.ownsRow B t 1 (.slice A n c) n (Lib.byteCells bs)
theorem FreshT.keep {B n : Nat} {bs : List UInt8} {v : Value} {w w' : World} (h : FreshT B n bs v w) (hb : Below w.heap.size w w') : FreshT B n bs v w' := by
  obtain ⟨A, c, t, h1, h2, h3⟩ := h
  exact ⟨A, c, t, h1, h2, own_below h3 hb⟩
theorem FreshT.own {B n : Nat} {bs : List UInt8} {A : Option Addr} {c : Nat} {w : World} (h : FreshT B n bs (.agg #[.slice A n c, .string ⟨#[]⟩]) w) : ∃ t, byteTag t ∧ w.ownsRow B t 1 (.slice A n c) n (Lib.byteCells bs) := by
  obtain ⟨A', c', t, h1, h2, h3⟩ := h
  injection h1 with h1
  simp only [Array.mk.injEq, List.cons.injEq, Value.slice.injEq, and_true] at h1
  obtain ⟨rfl, -, rfl⟩ := h1
  exact ⟨t, h2, h3⟩
/-- A new address with a port, in whatever row of bytes. -/
def FreshGT (B n : Nat) (bs : List UInt8) (u : Nat) (v : Value) (w : World) : Prop := ∃ A c t, v = .agg #[.slice A n c, .string ⟨#[]⟩, .int .u16 u] ∧ byteTag t ∧ w.ownsRow B t 1 (.slice A n c) n (Lib.byteCells bs)
set_option maxRecDepth 100000 in
set_option maxHeartbeats 8000000 in
theorem fromPort_c (bs : List UInt8) (u : Nat) (z : ZP) (w : World) (hz : Zs w z) (hl : isLen bs.length) :
    Calls Tryd.prog 18 #[.agg #[.int .u64 (adOf bs).h, .int .u64 (adOf bs).l, .pointer (z.ptr (adOf bs).k), .int .u16 u]] w fun e w' => ∃ v, e = .returned v ∧ FreshGT w.heap.size bs.length bs u v w' ∧ Below w.heap.size w w' := by
  obtain ⟨a1, a2⟩ := adOf_lt bs
  have hba := bytes_adOf hl
  have hfa := fun w hz => fromAddr_c (adOf bs) z w hz a1 a2
  rw [hba] at hfa
  go_enter Tryd.func18, Tryd.ntmps18
  go_wp2_with fail
  refine region_pick (Boxes w [#[.int .u64 (adOf bs).h, .int .u64 (adOf bs).l, .pointer (z.ptr (adOf bs).k), .int .u16 u], #[.slice none 0 0, .string ⟨#[]⟩, .int .u16 0]]) [(0, false, none), (1, false, none), (3, false, none), (2, true, none), (4, false, none), (5, false, none)] 6 (by kernel_rfl) (by kernel_rfl) (fun w1 w2 h hb => h.keep hb) ((boxes2 _ _ _).drew) ?_
  simp only [pickOps, List.getElem?_cons_zero, List.getElem?_cons_succ]
  repeat (first | (refine t_skip rfl ?_; (simp only [Act.put, List.setIfInBounds_toArray, List.set_cons_zero, List.set_cons_succ])) | (refine t_run ?_ rfl (fun w1 hw1 => ?_) ?_; rotate_left; (have r0 := hw1.b0; go_simp; try (with_reducible rfl)); (simp only [Act.put, List.setIfInBounds_toArray, List.set_cons_zero, List.set_cons_succ])) | (refine t_call ?_ ?_ ?_ rfl (fun w1 hw1 => ?_) (fun w1 hw1 => ?_) ?_; rotate_left 3; (have r0 := hw1.b0; go_simp; refine ⟨?_, ?_⟩ <;> with_reducible rfl); (first | (go_at_call 31; (with_reducible refine (apAddr_c _ _ _ _ w1).mono ?_); rintro e w2 ⟨rfl, hb⟩; refine ⟨?_, hb⟩; with_reducible rfl) | (go_at_call 31; (refine (apAddr_c _ _ _ _ w1).mono ?_); rintro e w2 ⟨rfl, hb⟩; refine ⟨?_, hb⟩; with_reducible rfl)); (simp only [Act.put, List.setIfInBounds_toArray, List.set_cons_zero, List.set_cons_succ])))
  refine t_fresh ?_ ?_ (fun v w' => FreshT (w.heap.size + 2) bs.length bs v w') (by rfl) (fun w1 hw1 => ?_) (fun v w w' h hb => h.keep hb) (fun w1 hw1 => ?_) ?_
  rotate_left 2
  (go_simp; refine ⟨?_, ?_⟩ <;> with_reducible rfl)
  (go_at_call 30; (with_reducible refine (hfa w1 (hz.keep hw1.below)).mono ?_); rintro e w2 ⟨A8, n8, c8, t8, rfl, ht8, hown8, hb8⟩; exact ⟨_, rfl, ⟨A8, c8, t8, by rw [show bs.length = n8 by have := hown8.1; rw [byteCells_len] at this; omega], ht8, by rw [show bs.length = n8 by have := hown8.1; rw [byteCells_len] at this; omega]; exact own_mono hown8 hw1.size⟩, hb8⟩)
  rintro v8 ⟨-, -, A8, c8, t8, rfl, -, -⟩
  (simp only [Act.put, List.setIfInBounds_toArray, List.set_cons_zero, List.set_cons_succ])
  repeat (first | (refine t_skip rfl ?_; (simp only [Act.put, List.setIfInBounds_toArray, List.set_cons_zero, List.set_cons_succ])) | (refine t_run ?_ rfl (fun w1 hw1 => ?_) ?_; rotate_left; (go_simp; try (with_reducible rfl)); (simp only [Act.put, List.setIfInBounds_toArray, List.set_cons_zero, List.set_cons_succ])) | (refine t_call ?_ ?_ ?_ rfl (fun w1 hw1 => ?_) (fun w1 hw1 => ?_) ?_; rotate_left 3; (go_simp; refine ⟨?_, ?_⟩ <;> with_reducible rfl); (first | (go_at_call 32; (with_reducible refine (apPort_c _ _ _ _ w1).mono ?_); rintro e w2 ⟨rfl, hb⟩; refine ⟨?_, hb⟩; with_reducible rfl) | (go_at_call 32; (refine (apPort_c _ _ _ _ w1).mono ?_); rintro e w2 ⟨rfl, hb⟩; refine ⟨?_, hb⟩; with_reducible rfl)); (simp only [Act.put, List.setIfInBounds_toArray, List.set_cons_zero, List.set_cons_succ])))
  intro w7 ⟨hw7, hf7⟩
  simp only [List.drop_succ_cons, List.drop_zero]
  obtain ⟨t7, ht7, hO7⟩ := hf7.own
  have bb := hw7.below
  have r1 := hw7.b1
  have f1 := hw7.f1
  have HO7 := Lib.hid hO7
  clear hf7 hO7 hfa hba
  go_wp2
  refine bodyPost_ret (v := .agg #[.slice A8 bs.length c8, .string ⟨#[]⟩, .int .u16 u]) (by simp [results, Tryd.results18, go_sem, r1]) rfl ?_
  refine ⟨_, rfl, ⟨A8, c8, t7, rfl, ht7, own_mono (ownsRow_setCell_below (ownsRow_setCell_below (ownsRow_setCell_below HO7.out (by simp) _) (by simp) _) (by simp) _) (by omega)⟩, ?_⟩
  exact ((bb.setCell (p := ⟨w.heap.size + 1, 0, none⟩) (by simp) _).setCell (p := ⟨w.heap.size + 1, 1, none⟩) (by simp) _).setCell (p := ⟨w.heap.size + 1, 2, none⟩) (by simp) _
end Go.Proofs.YtaofindlomkbbaaDoor
