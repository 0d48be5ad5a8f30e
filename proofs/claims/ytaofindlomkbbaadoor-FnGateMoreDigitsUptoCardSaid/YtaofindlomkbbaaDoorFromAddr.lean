/-
  Contract of impl.fromAddress.
-/
import Derived.Test.YtaofindlomkbbaaDoorAsSlice
namespace Go.Proofs.YtaofindlomkbbaaDoor
open Go Go.RowKit
/-- What fromAddress hands back: new bytes, no zone. -/
def FromPost (w : World) (bs : List UInt8) (e : Ending) (w' : World) : Prop :=
  ∃ A' n c' t, e = .returned (.agg #[.slice A' n c', .string ⟨#[]⟩]) ∧ byteTag t ∧ w'.ownsRow w.heap.size t 1 (.slice A' n c') n (Lib.byteCells bs) ∧ Below w.heap.size w w'
set_option maxRecDepth 100000 in
set_option maxHeartbeats 4000000 in
theorem fromAddr_c (x : Ad) (z : ZP) (w : World) (hz : Zs w z) (hh : x.h < 18446744073709551616) (hl : x.l < 18446744073709551616) :
    Calls Tryd.prog 30 #[.agg #[.int .u64 x.h, .int .u64 x.l, .pointer (z.ptr x.k)]] w (FromPost w (bytesOf x)) := by
  go_enter Tryd.func30, Tryd.ntmps30
  go_wp2_with fail
  have hbx : Boxes w [#[.int .u64 x.h, .int .u64 x.l, .pointer (z.ptr x.k)], #[.slice none 0 0, .string ⟨#[]⟩]] ((w.alloc (.cells #[.int .u64 x.h, .int .u64 x.l, .pointer (z.ptr x.k)] 54)).alloc (.cells #[.slice none 0 0, .string ⟨#[]⟩] 26)).drew := (boxes2 _ _ _).drew
  have HX := Lib.hid hbx
  clear hbx
  go_region_with (first
      | (go_at_call 46; refine (asSlice_c x z _ (hz.keep HX.out.below) hh hl).mono ?_; rintro e w2 ⟨A', n, c', t, rfl, ht, hown, hb⟩; have hw2 := Lib.hid (HX.out.keep hb); have r0 := hw2.out.b0; have HT := Lib.hid ht; have HO := Lib.hid hown; have HB := Lib.hid hb; clear ht hown hb)
      | (go_at_call 47; refine (zone_c _ _ _ z _ (hz.keep hw2.out.below)).mono ?_; rintro e w3 ⟨rfl, hb3⟩; have hw3 := Lib.hid (hw2.out.keep hb3); have r0 := hw3.out.b0; have r1 := hw3.out.b1; have f1 := hw3.out.f1; have HB3 := Lib.hid hb3; clear hb3))
  all_goals
    have hb := hw3.out.below
    go_wp2
    refine bodyPost_ret (v := .agg #[.slice A' n c', .string ⟨#[]⟩]) (by simp [results, Tryd.results30, go_sem, r1]) rfl ?_
    refine ⟨A', n, c', t, rfl, HT.out, ?_, by go_grown⟩
    exact own_mono (ownsRow_setCell_below (ownsRow_setCell_below (own_below HO.out HB3.out) (by simp) _) (by simp) _) (by simp; omega)
end Go.Proofs.YtaofindlomkbbaaDoor
