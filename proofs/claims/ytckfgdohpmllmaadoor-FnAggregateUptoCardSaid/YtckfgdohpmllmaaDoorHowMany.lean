/-
  Contract of laws.howMany.
-/
import Derived.Test.YtckfgdohpmllmaaDoorMade
namespace Go.Proofs.YtckfgdohpmllmaaDoor
open Go Go.RowKit
/-- How many of some prefixes contain an address. -/
def manyIn (ps : List (List UInt8 × Nat)) (b : List UInt8) : Nat := ps.countP fun p => inP p.1 p.2 b
theorem manyIn_take (ps : List (List UInt8 × Nat)) (b : List UInt8) (j : Nat) (p : List UInt8 × Nat) (h : ps[j]? = some p) : manyIn (ps.take (j + 1)) b = manyIn (ps.take j) b + if inP p.1 p.2 b then 1 else 0 := by
  unfold manyIn
  rw [List.take_add_one, h, Option.toList_some, List.countP_append]
  simp [List.countP_cons]
theorem manyIn_le (ps : List (List UInt8 × Nat)) (b : List UInt8) : manyIn ps b ≤ ps.length := List.countP_le_length
set_option maxRecDepth 100000 in
set_option maxHeartbeats 8000000 in
theorem howMany_c (A B : Option Addr) (n m c d : Nat) (es : List Pf) (bs : List UInt8) (z : ZP) (w : World) (hz : Zs w z) (hl : RP w A n es) (hv : ∀ e ∈ es, Vp e.is) (hn : n ≤ 140737488355328) (hb : RB w B m bs) (hB : B = none → m = 0 ∧ d = 0) (hm : m ≤ 140737488355328) :
    Calls Tryd.prog 20 #[.slice A n c, .slice B m d] w fun e w' => e = .returned (.int .i64 (manyIn (es.map Pf.is) bs)) ∧ Below w.heap.size w w' := by
  go_enter Tryd.func20, Tryd.ntmps20
  go_wp2_with fail
  go_loopw [5, 10] (fun v i wr => ∃ j : Nat, j ≤ n ∧ i = .int .i64 j ∧ v = .int .i64 (manyIn ((es.map Pf.is).take j) bs) ∧ Below w.heap.size w wr) (fun _ i _ => n - (intOf i).toNat)
  case atStart => exact ⟨0, Nat.zero_le _, rfl, rfl, Below.refl _ _⟩
  case round =>
    obtain ⟨j, hj, rfl, rfl, hbb⟩ := hrel
    have hmj := manyIn_le ((es.map Pf.is).take j) bs
    have hml : ((es.map Pf.is).take j).length ≤ j := List.length_take_le _ _
    by_cases hlt : j < n
    · obtain ⟨g, o, e, hA, hg, hek, hc0, hc1, hc2, hbe⟩ := (hl.keep hbb).at hlt
      subst hA
      have hmt := manyIn_take (es.map Pf.is) bs j e.is (by rw [List.getElem?_map, hek]; rfl)
      have hve := hv e (List.mem_of_getElem? hek)
      have HMT := Lib.hid hmt
      clear hmt hek
      generalize manyIn ((es.map Pf.is).take j) bs = q at *
      have hx : Below wr.heap.size wr (wr.alloc (.cells #[.slice e.a e.n e.c, .string ⟨#[]⟩, .int .i64 e.k] 29)) := (Below.refl _ _).alloc (Nat.le_refl _) _
      have hbx := hbb.trans (hx.mono hbb.size)
      go_wp2_with fail
      refine (contains_c e.a B e.n m e.c d e.bs bs e.k z _ (hz.keep hbx) (hbe.keep hx) (hb.keep hbx) hB hm hve.1 hve.2).mono ?_
      rintro e1 w1 ⟨rfl, hb1⟩
      have hb2 := hbx.trans (hb1.mono hbx.size)
      have hmt : manyIn ((es.map Pf.is).take (j + 1)) bs = q + if inP e.bs e.k bs then 1 else 0 := HMT.out
      cases hin : inP e.bs e.k bs
      · rw [hin, if_neg (by simp), Nat.add_zero] at hmt
        have HM2 := Lib.hid hmt
        clear hmt HMT
        go_wp2
        go_roundw
        case rel => exact ⟨j + 1, by omega, by go_num, by rw [HM2.out]; rfl, hb2⟩
        case measure => simp [intOf]; omega
      · rw [hin, if_pos rfl] at hmt
        have HM2 := Lib.hid hmt
        clear hmt HMT
        go_wp2
        go_roundw
        case rel => exact ⟨j + 1, by omega, by go_num, by rw [HM2.out]; push_cast; rfl, hb2⟩
        case measure => simp [intOf]; omega
    · have hjn : j = n := by omega
      subst hjn
      rw [List.take_of_length_le (by rw [List.length_map, hl.1]; omega)] at hmj ⊢
      go_wp2
      go_returns
      exact ⟨rfl, hbb⟩
end Go.Proofs.YtckfgdohpmllmaaDoor
