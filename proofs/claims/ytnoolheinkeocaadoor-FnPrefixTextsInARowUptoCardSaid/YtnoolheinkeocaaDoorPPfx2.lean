/-
  Contracts: ParsePrefix at texts that Prefix.String writes; at texts without a slash.
-/
import Derived.Test.YtnoolheinkeocaaDoorPPfx
import Derived.Test.YtnoolheinkeocaaDoorFromPf
import Derived.Test.YtnoolheinkeocaaDoorStrs
namespace Go.Proofs.YtnoolheinkeocaaDoor
open Go Go.RowKit
theorem parsePf_c (s : ByteArray) (A bs : List UInt8) (n : Nat) (z : ZP) (w : World) (hz : Zs w z) (hs : s.size ≤ 4611686018427387904) (hA : s.data.toList = A ++ 47 :: Tx.decT n) (h37 : (37 : UInt8) ∉ A) (hp : Tx.pA A = some bs) (hl : isLen bs.length) (hn : n ≤ 8 * bs.length) :
    Calls Tryd.prog 18 #[.string s] w fun e w' => e = .returned (.tuple #[.agg #[.int .u64 (adOf bs).h, .int .u64 (adOf bs).l, .pointer (z.ptr (adOf bs).k), .int .u8 ((n + 1 : Nat) : Int)], .nilIface]) ∧ Below w.heap.size w w' := by
  obtain ⟨hk, hb⟩ := bl_len hl
  have hSL : (s.extract 0 A.length).data.toList = A := pre_list hA
  have hSz : (s.extract 0 A.length).size ≤ 4611686018427387904 := by
    have := str_len s
    rw [hA, List.length_append] at this
    rw [← str_len, hSL]; omega
  obtain ⟨b6, hb6⟩ : ∃ b, (adOf bs).k = some b := by
    cases h : (adOf bs).k with
    | none => exact absurd h hk
    | some b => exact ⟨b, rfl⟩
  rw [hb6] at hb ⊢
  refine parsePf_in s A n _ _ b6 z w hz hs hA (by rw [hb]; omega) fun w1 hz1 => ?_
  refine (parseAddr_c _ z w1 hz1 hSz (by rw [hSL]; exact h37)).mono ?_
  intro e w2 h
  rw [hSL, hp] at h
  obtain ⟨hb, -, rfl⟩ := h
  exact ⟨by rw [hb6], hb⟩
set_option maxRecDepth 100000 in
set_option maxHeartbeats 8000000 in
theorem parsePf_no (s : ByteArray) (w : World) (hs : s.size ≤ 4611686018427387904) (h47 : (47 : UInt8) ∉ s.data.toList) :
    Calls Tryd.prog 18 #[.string s] w fun e w' => (∃ x, e = .returned (.tuple #[.agg #[.int .u64 0, .int .u64 0, .pointer none, .int .u8 0], .iface 79 x])) ∧ Below w.heap.size w w' := by
  have hl47 : lix s.data.toList 47 s.size = -1 := by rw [← str_len]; exact lix_none h47 _ (Nat.le_refl _)
  have H47 := Lib.hid hl47
  clear hl47
  go_enter Tryd.func18, Tryd.ntmps18
  go_wp2_with fail
  refine (last_c s 47 _ hs).mono ?_
  rintro e w1 ⟨rfl, rfl⟩
  rw [H47.out]
  have hb0 : Blk (w.alloc (.cells pf0 58)) w.heap.size 58 pf0 := heap_alloc_new w (.cells pf0 58)
  have hbl : Below w.heap.size w (w.alloc (.cells pf0 58)) := (Below.refl _ _).alloc (Nat.le_refl _) _
  generalize w.alloc (.cells pf0 58) = w1 at *
  have r0 := hb0.cell
  have f0 := hb0.free
  have HB := Lib.hid (And.intro hb0 hbl)
  clear hb0 hbl
  go_wp2_with (with_reducible exact ret18 HB.out.1 ⟨⟨_, rfl⟩, low_put4 HB.out.2 (Nat.le_refl _)⟩)
end Go.Proofs.YtnoolheinkeocaaDoor
