/-
  How addresses compare; an empty row.
-/
import Derived.Test.YtckfgdohpmllmaaDoorPlain
import Derived.Test.YtckfgdohpmllmaaDoorCmp
import Derived.Test.YtckfgdohpmllmaaDoorRegion2
namespace Go.Proofs.YtckfgdohpmllmaaDoor
open Go Go.RowKit
theorem infoI64 : (Tryd.prog.info? 3).map (fun i => (i.zero, i.size, i.bytes)) = some (some (.int .i64 0), 1, 8) := by kernel_rfl
def cmpOf (a b : List UInt8) : Int := cmpA (adOf a).k (adOf a).h (adOf a).l (adOf b).k (adOf b).h (adOf b).l
theorem own_empty (w : World) (b base : Nat) (e : TypeId) (size : Nat) (hb : b = w.heap.size) (hbase : base ≤ b) : (w.alloc (.cells #[] e)).ownsRow base e size (.slice (some ⟨b, 0, none⟩) 0 0) 0 [] := by
  subst hb
  exact World.ownsRow_made w #[] 0 hbase (by simp [maxLen]) (by simp)
end Go.Proofs.YtckfgdohpmllmaaDoor
