/-
  Contract of impl.CompareEach.
-/
import Derived.Test.YtocckokbdacdfaaDoorPlain
import Derived.Test.YtocckokbdacdfaaDoorCmp
import Derived.Test.YtocckokbdacdfaaDoorRegion2
namespace Go.Proofs.YtocckokbdacdfaaDoor
open Go Go.RowKit
theorem infoI64 : (Tryd.prog.info? 3).map (fun i => (i.zero, i.size, i.bytes)) = some (some (.int .i64 0), 1, 8) := by kernel_rfl
def cmpOf (a b : List UInt8) : Int := cmpA (adOf a).k (adOf a).h (adOf a).l (adOf b).k (adOf b).h (adOf b).l
def signs (a : List UInt8) (es : List En) : List Value := es.map fun e => .int .i64 (cmpOf a e.bs)
def SignsPost (w : World) (n : Nat) (a : List UInt8) (es : List En) (e : Ending) (w' : World) : Prop :=
  ∃ A' c', e = .returned (.slice A' n c') ∧ w'.ownsRow w.heap.size 3 1 (.slice A' n c') n (signs a es) ∧ Below w.heap.size w w'
theorem own_empty (w : World) (b base : Nat) (e : TypeId) (size : Nat) (hb : b = w.heap.size) (hbase : base ≤ b) : (w.alloc (.cells #[] e)).ownsRow base e size (.slice (some ⟨b, 0, none⟩) 0 0) 0 [] := by
  subst hb
  exact World.ownsRow_made w #[] 0 hbase (by simp [maxLen]) (by simp)
theorem signs_len (a : List UInt8) (es : List En) : (signs a es).length = es.length := by simp [signs]
theorem signs_take (a : List UInt8) (es : List En) (k : Nat) (e : En) (h : es[k]? = some e) : signs a (es.take (k + 1)) = signs a (es.take k) ++ [.int .i64 (cmpOf a e.bs)] := by
  rw [List.take_add_one, h]
  simp [signs]
theorem cmpEach_none (A0 : Option Addr) (n0 c0 : Nat) (bs : List UInt8) (A : Option Addr) (c : Nat) (w : World) :
    Calls Tryd.prog 12 #[.agg #[.slice A0 n0 c0, .string ⟨#[]⟩], .slice A 0 c] w (SignsPost w 0 bs []) := by
  go_enter Tryd.func12, Tryd.ntmps12
  go_wp2_with fail
  refine wp_loop_rounds 1 ?_
  rw [rounds_succ]
  go_wp2
  go_returns
  exact ⟨_, _, rfl, own_empty _ _ _ _ _ (by simp) (by omega), by go_grown⟩
set_option maxHeartbeats 4000000 in
theorem cmpEach_some (A0 : Option Addr) (n0 c0 : Nat) (bs : List UInt8) (g o : Nat) (n c : Nat) (es : List En) (z : ZP) (w : World) (hz : Zs w z) (hr : RB w A0 n0 bs) (hl : RA w (some ⟨g, o, none⟩) n es) (hn : n ≤ 17592186044416) :
    Calls Tryd.prog 12 #[.agg #[.slice A0 n0 c0, .string ⟨#[]⟩], .slice (some ⟨g, o, none⟩) n c] w (SignsPost w n bs es) := by
  obtain ⟨i0, hi, hz0, hz1, hz2⟩ := info_parts infoI64
  go_enter Tryd.func12, Tryd.ntmps12
  go_wp2_with fail
  go_loopw [5, 11] (fun v i wr => ∃ k : Nat, k ≤ n ∧ i = .int .i64 k ∧ wr.ownsRow (w.heap.size + 1) 3 1 v k (signs bs (es.take k)) ∧ Boxes w [#[.slice A0 n0 c0, .string ⟨#[]⟩]] wr) (fun _ i _ => n - (intOf i).toNat)
  case atStart => exact ⟨0, Nat.zero_le _, rfl, own_empty _ _ _ _ _ (by simp) (by omega), (boxes1 _ _).alloc _⟩
  case round =>
    obtain ⟨k, hk, rfl, hown, hbx⟩ := hrel
    by_cases hlt : k < n
    · obtain ⟨g', o', e, hA, hg, hek, hc0, hc1, hb⟩ := (hl.keep hbx.below).at hlt
      injection hA with hA
      injection hA with hA1 hA2
      subst hA1 hA2
      have ho := own_row_ge hown
      have HO := Lib.hid hown
      have HE := Lib.hid hek
      have HR := Lib.hid ho
      clear hown hek ho
      go_wp2_with fail
      refine region_mtail (Boxes wr [#[.slice e.a e.n e.c, .string ⟨#[]⟩]]) 5 (by kernel_rfl) (by kernel_rfl) ((boxes1 _ _).drew) ?_ (fun _ _ _ h => h) (Or.inl ⟨rfl, fun w1 => ?_⟩) ?_
      rotate_left
      (go_simp; with_reducible rfl)
      simp only [List.take_succ_cons, List.take_zero, List.drop_succ_cons, List.drop_zero, Act.put, List.setIfInBounds_toArray, List.set_cons_zero, List.set_cons_succ]
      repeat (first | (refine quiet_skip rfl ?_; (simp only [Act.put, List.setIfInBounds_toArray, List.set_cons_zero, List.set_cons_succ])) | (refine quiet_run ?_ rfl (fun w1 hw1 => ?_) ?_; rotate_left; (have r0 := hw1.b0; have r1 := (hbx.keep hw1.below).b0; go_simp; try (with_reducible rfl)); (simp only [Act.put, List.setIfInBounds_toArray, List.set_cons_zero, List.set_cons_succ])) | (refine quiet_call ?_ ?_ ?_ rfl (fun w1 hw1 => ?_) (fun w1 hw1 => ?_) ?_; rotate_left 3; (have r0 := hw1.b0; have r1 := (hbx.keep hw1.below).b0; go_simp; refine ⟨?_, ?_⟩ <;> with_reducible rfl); (first | (go_at_call 23; (with_reducible refine (address_c A0 n0 c0 bs z w1 (hz.keep (hbx.keep hw1.below).below) (hr.keep (hbx.keep hw1.below).below)).mono ?_); rintro e w2 ⟨rfl, hb⟩; refine ⟨?_, hw1.keep hb⟩; with_reducible rfl) | (go_at_call 23; (with_reducible refine (address_c e.a e.n e.c e.bs z w1 (hz.keep (hbx.keep hw1.below).below) (hb.keep hw1.below)).mono ?_); rintro e w2 ⟨rfl, hb⟩; refine ⟨?_, hw1.keep hb⟩; with_reducible rfl) | (go_at_call 24; (with_reducible refine (compare_c _ _ _ _ _ _ z w1 (hz.keep (hbx.keep hw1.below).below)).mono ?_); rintro e w2 ⟨rfl, hb⟩; refine ⟨?_, hw1.keep hb⟩; with_reducible rfl) | (go_at_call 23; (refine (address_c A0 n0 c0 bs z w1 (hz.keep (hbx.keep hw1.below).below) (hr.keep (hbx.keep hw1.below).below)).mono ?_); rintro e w2 ⟨rfl, hb⟩; refine ⟨?_, hw1.keep hb⟩; with_reducible rfl) | (go_at_call 23; (refine (address_c e.a e.n e.c e.bs z w1 (hz.keep (hbx.keep hw1.below).below) (hb.keep hw1.below)).mono ?_); rintro e w2 ⟨rfl, hb⟩; refine ⟨?_, hw1.keep hb⟩; with_reducible rfl) | (go_at_call 24; (refine (compare_c _ _ _ _ _ _ z w1 (hz.keep (hbx.keep hw1.below).below)).mono ?_); rintro e w2 ⟨rfl, hb⟩; refine ⟨?_, hw1.keep hb⟩; with_reducible rfl)); (simp only [Act.put, List.setIfInBounds_toArray, List.set_cons_zero, List.set_cons_succ])))
      refine wpQuiet_nil ?_
      intro w1 hw1
      have hown1 := own_below HO.out hw1.below
      have hbx1 := hbx.keep hw1.below
      have hs1 := hbx1.size
      clear hbx
      go_wp2_with (at_builtin; refine wpList_append_own _ rfl _ _ 25 rfl (w.heap.size + 1) 3 i0 (.int .i64 0) 1 8 Tryd.underlying25 hi hz0 hz1 hz2 rfl (by decide) _ _ _ rfl (hown1.alloc _) ⟨w1.heap.size, 0, none⟩ 1 1 [.int .i64 (cmpOf bs e.bs)] rfl rfl ?c1 ?c2 ?c3 ?c4 ?c5 ?_)
      case c1 =>
        intro j u hj
        match j, hj with
        | 0, hj => simp at hj; subst hj; exact World.cell?_alloc_new _ _ _ _
      case c2 => intro u hu; simp at hu; subst hu; rfl
      case c3 => unfold maxLen; omega
      case c4 => omega
      case c5 => simp at hs1 ⊢; omega
      intro v' w2 hown2 hgrow _
      have hbx2 := (hbx1.alloc _).grown hgrow (by simp; exact HR.out)
      rw [← signs_take bs es k e HE.out] at hown2
      have HO2 := Lib.hid hown2
      clear hown1 hown2 hbx1 hgrow hw1
      go_wp2
      go_roundw
      case rel => exact ⟨k + 1, by omega, by go_num, HO2.out, hbx2⟩
      case measure => simp [intOf]; omega
    · have hkn : k = n := by omega
      subst hkn
      have hb := hbx.below
      have HO := Lib.hid hown
      clear hown
      go_wp2
      go_returns
      have hv : ∃ A' c', u5 = .slice A' k c' := by
        rcases HO.out.2 with ⟨hv, hz⟩ | ⟨g, cap, cur, hv, _⟩
        · exact ⟨none, 0, by rw [hv, hz]⟩
        · exact ⟨_, _, hv⟩
      obtain ⟨A', c', rfl⟩ := hv
      refine ⟨A', c', rfl, ?_, hb⟩
      have := HO.out
      rw [List.take_of_length_le (by rw [hl.1]; omega)] at this
      exact own_mono this (by omega)
theorem cmpEach_c (A0 : Option Addr) (n0 c0 : Nat) (bs : List UInt8) (A : Option Addr) (n c : Nat) (es : List En) (z : ZP) (w : World) (hz : Zs w z) (hr : RB w A0 n0 bs) (hl : RA w A n es) (hn : n ≤ 17592186044416) :
    Calls Tryd.prog 12 #[.agg #[.slice A0 n0 c0, .string ⟨#[]⟩], .slice A n c] w (SignsPost w n bs es) := by
  by_cases h0 : n = 0
  · subst h0
    obtain rfl : es = [] := List.eq_nil_of_length_eq_zero hl.1
    exact cmpEach_none A0 n0 c0 bs A c w
  · obtain ⟨g, o, rfl, _⟩ := hl.2.1 (by rw [enCells_len, hl.1]; omega)
    exact cmpEach_some A0 n0 c0 bs g o n c es z w hz hr hl hn
end Go.Proofs.YtocckokbdacdfaaDoor
