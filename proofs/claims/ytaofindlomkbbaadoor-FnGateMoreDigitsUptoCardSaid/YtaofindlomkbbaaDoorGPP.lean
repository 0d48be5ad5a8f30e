/-
  Contract: ParseAddrPort.
-/
import Derived.Test.YtaofindlomkbbaaDoorGSplit
import Derived.Test.YtaofindlomkbbaaDoorShelfG
namespace Go.Proofs.YtaofindlomkbbaaDoor
open Go Go.RowKit
abbrev pa0 : Array Value := #[.int .u64 0, .int .u64 0, .pointer none, .int .u16 0]
/-- ParseAddrPort's error. -/
def PPErr (e : Ending) : Prop := ∃ t p, e = .returned (.tuple #[.agg #[.int .u64 0, .int .u64 0, .pointer none, .int .u16 0], .iface t p])
theorem PPErr.of {t : TypeId} {p : Value} : PPErr (.returned (.tuple #[.agg #[.int .u64 0, .int .u64 0, .pointer none, .int .u16 0], .iface t p])) := ⟨t, p, rfl⟩
theorem Boxes.put {w w1 : World} {xs : List (Array Value)} (h : Boxes w xs w1) (j : Nat) (x : Array Value) (hx : xs[j]? = some x) (i : Nat) (v : Value) : Boxes w (xs.set j (x.setIfInBounds i v)) (w1.setCell ⟨w.heap.size + j, i, none⟩ v) := by
  have hjl : j < xs.length := (List.getElem?_eq_some_iff.1 hx).1
  have hs := h.size
  refine ⟨h.below.setCell (by show w.heap.size ≤ w.heap.size + j; omega) v, by simp [World.setCell]; omega, fun j' x' hj' i' => ?_, fun j' x' hj' i' => ?_⟩
  · by_cases e : j = j'
    · subst e
      rw [List.getElem?_set_self hjl] at hj'
      injection hj' with hj'
      subst hj'
      by_cases ei : i = i'
      · subst ei
        rw [Array.getElem?_setIfInBounds_self]
        by_cases hi : i < x.size
        · rw [if_pos hi]
          exact World.cell?_setCell_same' _ _ _ (by rw [h.cell j x hx i]; simp [hi])
        · rw [if_neg hi]
          have hn : w1.cell? ⟨w.heap.size + j, i, none⟩ = none := by rw [h.cell j x hx i]; simp; omega
          unfold World.cell? at hn ⊢
          simp only [World.setCell, Array.getElem?_modify, if_true]
          generalize w1.heap[w.heap.size + j]? = ob at *
          cases ob with
          | none => rfl
          | some ob => cases ob <;> simp_all
      · rw [World.cell?_setCell_other _ _ _ _ (fun e => ei (by injection e)), h.cell j x hx i', Array.getElem?_setIfInBounds_ne ei]
    · rw [List.getElem?_set_ne e] at hj'
      rw [World.cell?_setCell_other _ _ _ _ (fun e' => e (by injection e'; omega))]
      exact h.cell j' x' hj' i'
  · have hfz : ∀ a : Addr, (w1.setCell ⟨w.heap.size + j, i, none⟩ v).frozen? a = w1.frozen? a := fun a => by simp
    rw [hfz]
    by_cases e : j = j'
    · subst e
      exact h.free j x hx i'
    · rw [List.getElem?_set_ne e] at hj'
      exact h.free j' x' hj' i'
theorem low_put4 {B g : Nat} {w w' : World} (h : Below B w w') (hg : B ≤ g) {x y z u : Value} : Below B w ((((w'.setCell ⟨g, 0, none⟩ x).setCell ⟨g, 1, none⟩ y).setCell ⟨g, 2, none⟩ z).setCell ⟨g, 3, none⟩ u) :=
  (low_put h hg).setCell (p := ⟨g, 3, none⟩) hg u
theorem ret17 {w wr : World} {v0 v1 x a b c d : Value} {rest : List Value} {xs : List (Array Value)} {Q : Ending → World → Prop} (hb : Boxes w (pa0 :: xs) wr)
    (hq : Q (.returned (.tuple #[.agg #[a, b, c, d], x])) ((((wr.setCell ⟨w.heap.size, 0, none⟩ a).setCell ⟨w.heap.size, 1, none⟩ b).setCell ⟨w.heap.size, 2, none⟩ c).setCell ⟨w.heap.size, 3, none⟩ d)) :
    bodyPost Tryd.prog Tryd.f17 Q .ret ⟨(v0 :: v1 :: .pointer (some ⟨w.heap.size, 0, none⟩) :: x :: rest).toArray, []⟩ ((((wr.setCell ⟨w.heap.size, 0, none⟩ a).setCell ⟨w.heap.size, 1, none⟩ b).setCell ⟨w.heap.size, 2, none⟩ c).setCell ⟨w.heap.size, 3, none⟩ d) := by
  refine bodyPost_ret (v := .tuple #[.agg #[a, b, c, d], x]) ?_ rfl hq
  have r := ((((hb.put 0 _ rfl 0 a).put 0 _ rfl 1 b).put 0 _ rfl 2 c).put 0 _ rfl 3 d).b0
  simp only [Nat.add_zero] at r
  simp [results, Tryd.results17, go_sem, r]
set_option maxRecDepth 100000 in
set_option maxHeartbeats 8000000 in
theorem pp_split (s : ByteArray) (w : World) (hsp : ∀ w, Calls Tryd.prog 23 #[.string s] w fun e w' => SplitErr e ∧ Below w.heap.size w w') :
    Calls Tryd.prog 17 #[.string s] w fun e w' => PPErr e ∧ Below w.heap.size w w' := by
  have HX := Lib.hid (boxes2 (x0 := pa0) (x1 := pa0) w 56 56)
  go_enter Tryd.func17, Tryd.ntmps17
  go_wp2_with fail
  refine (hsp _).mono ?_
  rintro e w2 ⟨⟨p, rfl⟩, hb2⟩
  have hB := HX.out.keep hb2
  have b0 := hB.b0
  have b1 := hB.b1
  have f0 := hB.f0
  have f1 := hB.f1
  have HB := Lib.hid hB
  clear hb2 hB HX
  go_wp2_with (with_reducible exact ret17 HB.out ⟨PPErr.of, low_put4 HB.out.below (Nat.le_refl _)⟩)
set_option maxRecDepth 100000 in
set_option maxHeartbeats 8000000 in
theorem pp_in (s ip pt : ByteArray) (v6 : Bool) (bs : List UInt8) (u : Nat) (z : ZP) (w : World) (hz : Zs w z) (hi : ip.size ≤ 4611686018427387904) (hp : pt.size ≤ 4611686018427387904) (h37 : (37 : UInt8) ∉ ip.data.toList)
    (hsp : ∀ w, Calls Tryd.prog 23 #[.string s] w fun e w' => e = .returned (.tuple #[.string ip, .string pt, .bool v6, .nilIface]) ∧ Below w.heap.size w w')
    (hu : Lib.parseUintB 16 pt.data.toList = .ok u) (hu2 : u < 65536) (hpA : Tx.pA ip.data.toList = some bs) (hv : (adOf bs).k = some v6) :
    Calls Tryd.prog 17 #[.string s] w fun e w' => e = .returned (.tuple #[.agg #[.int .u64 (adOf bs).h, .int .u64 (adOf bs).l, .pointer (z.ptr (adOf bs).k), .int .u16 u], .nilIface]) ∧ Below w.heap.size w w' := by
  have HX := Lib.hid (boxes2 (x0 := pa0) (x1 := pa0) w 56 56)
  have HPA := Lib.hid hpA
  have hu3 : (u : Int) < 65536 := by omega
  have hu4 : (u : Int) % 65536 = u := by omega
  obtain ⟨X, hX⟩ : ∃ X, X = adOf bs := ⟨_, rfl⟩
  rw [← hX] at hv ⊢
  rw [hv]
  have HXA := Lib.hid hX
  have HU := Lib.hid hu
  clear hpA hX hu
  go_enter Tryd.func17, Tryd.ntmps17
  go_wp2_with fail
  refine (hsp _).mono ?_
  rintro e w2 ⟨rfl, hb2⟩
  have hB := HX.out.keep hb2
  have HB := Lib.hid hB
  clear hb2 hB HX
  go_wp2_with fail
  refine (Tryd.strconv_ParseUint_10_at16_ok pt (by omega) u HU.out w2).mono ?_
  rintro e w3 ⟨rfl, hw3⟩
  have hb3 : Below w2.heap.size w2 w3 := by
    rcases hw3 with rfl | rfl
    · exact Below.refl _ _
    · exact Lib.bytesWorld_below _ _ _
  have hB3 := HB.out.keep hb3
  have b1 := hB3.b1
  have f1 := hB3.f1
  have HB3 := Lib.hid hB3
  clear hb3 hB3 hw3 HB
  go_wp2_with fail
  have hB4 := HB3.out.put 1 pa0 rfl 3 (.int .u16 u)
  have HB4 := Lib.hid hB4
  clear hB4 b1 f1 HB3
  refine (parseAddr_c ip z _ (hz.keep HB4.out.below) hi h37).mono ?_
  intro e w5 h5
  rw [HPA.out] at h5
  obtain ⟨hb5, -, rfl⟩ := h5
  rw [← HXA.out]
  have hB5 := HB4.out.keep hb5
  have b1 := hB5.b1
  have f1 := hB5.f1
  have HB5 := Lib.hid hB5
  clear hb5 hB5 HB4
  rw [hv]
  cases v6 with
  | true =>
    go_wp2_with fail
    have hB6 : Boxes w [pa0, #[.int .u64 X.h, .int .u64 X.l, .pointer (z.ptr (some true)), .int .u16 u]] _ := ((HB5.out.put 1 _ rfl 0 (.int .u64 X.h)).put 1 _ rfl 1 (.int .u64 X.l)).put 1 _ rfl 2 (.pointer (z.ptr (some true)))
    have HB6 := Lib.hid hB6
    clear hB6 b1 f1 HB5
    refine (is4_c _ _ (some true) z _ (hz.keep HB6.out.below)).mono ?_
    rintro e w7 ⟨rfl, hb7⟩
    rw [show ((some true : Option Bool) == some false) = false from rfl]
    have hB7 := HB6.out.keep hb7
    have b0 := hB7.b0
    have b1 := hB7.b1
    have f0 := hB7.f0
    have f1 := hB7.f1
    have HB7 := Lib.hid hB7
    clear hb7 hB7 HB6
    go_wp2_with (with_reducible exact ret17 HB7.out ⟨rfl, low_put4 HB7.out.below (Nat.le_refl _)⟩)
  | false =>
    go_wp2_with fail
    have hB6 : Boxes w [pa0, #[.int .u64 X.h, .int .u64 X.l, .pointer (z.ptr (some false)), .int .u16 u]] _ := ((HB5.out.put 1 _ rfl 0 (.int .u64 X.h)).put 1 _ rfl 1 (.int .u64 X.l)).put 1 _ rfl 2 (.pointer (z.ptr (some false)))
    have HB6 := Lib.hid hB6
    clear hB6 b1 f1 HB5
    refine (is6_c _ _ (some false) z _ (hz.keep HB6.out.below)).mono ?_
    rintro e w7 ⟨rfl, hb7⟩
    rw [show ((some false : Option Bool) == some true) = false from rfl]
    have hB7 := HB6.out.keep hb7
    have b0 := hB7.b0
    have b1 := hB7.b1
    have f0 := hB7.f0
    have f1 := hB7.f1
    have HB7 := Lib.hid hB7
    clear hb7 hB7 HB6
    go_wp2_with (with_reducible exact ret17 HB7.out ⟨rfl, low_put4 HB7.out.below (Nat.le_refl _)⟩)
end Go.Proofs.YtaofindlomkbbaaDoor
