/-
  The walk of laws.FnRanks.
-/
import Derived.Test.YtocckokbdacdfaaDoorPlaces
import Derived.Test.YtocckokbdacdfaaDoorKey
import Derived.Test.YtocckokbdacdfaaDoorApp
namespace Go.Proofs.YtocckokbdacdfaaDoor
open Go Go.RowKit
def TruePost (w : World) (e : Ending) (w' : World) : Prop := e = .returned (.bool true) ∧ Below w.heap.size w w'
def ranksOf (l : List (List UInt8)) (m : List (List UInt8)) : List Value := m.map fun a => .int .i64 (rankOf a l)
theorem ranksOf_take (l m : List (List UInt8)) (k : Nat) (a : List UInt8) (h : m[k]? = some a) : ranksOf l (m.take (k + 1)) = ranksOf l (m.take k) ++ [.int .i64 (rankOf a l)] := by
  unfold ranksOf
  rw [List.take_add_one, h]
  simp
theorem ranksOf_get (l m : List (List UInt8)) (k : Nat) (a : List UInt8) (h : m[k]? = some a) : (ranksOf l m)[k]? = some (.int .i64 (rankOf a l)) := by
  unfold ranksOf; rw [List.getElem?_map, h]; rfl
theorem signs_get (a : List UInt8) (es : List En) (j : Nat) (e : En) (h : es[j]? = some e) : (signs a es)[j]? = some (.int .i64 (cmpOf a e.bs)) := by
  unfold signs; rw [List.getElem?_map, h]; rfl
theorem bss_get {es : List En} {j : Nat} {e : En} (h : es[j]? = some e) : (es.map (·.bs))[j]? = some e.bs := by rw [List.getElem?_map, h]; rfl
set_option maxHeartbeats 8000000 in
theorem ranks_walk (A : Option Addr) (n c : Nat) (es : List En) (z : ZP) (w : World) (hz : Zs w z) (hl : RS w A n es) (hn : n ≤ 1048576) :
    Calls Tryd.prog 3 #[.slice A n c] w (TruePost w) := by
  obtain ⟨i0, hi, hz0, hz1, hz2⟩ := info_parts infoI64
  go_enter Tryd.func3, Tryd.ntmps3
  go_wp2_with fail
  refine (places_c A n c es w hl (by omega)).mono ?_
  rintro e w1 ⟨A1, c1, es1, rfl, hra, hmap, hb1⟩
  clear hmap hl
  replace hz := hz.keep hb1
  obtain ⟨bss, hbss⟩ : ∃ bss, bss = es1.map (·.bs) := ⟨_, rfl⟩
  have HB := Lib.hid hbss
  clear hbss
  have hbl : bss.length = n := by rw [HB.out, List.length_map, hra.1]
  by_cases h0 : n = 0
  · subst h0
    go_wp2_with fail
    refine wp_loop_rounds 1 ?_
    rw [rounds_succ]
    go_wp2_with fail
    refine wp_loop_rounds 1 ?_
    rw [rounds_succ]
    go_wp2_with fail
    go_returns
    have hs := hb1.size
    exact ⟨rfl, by go_grown⟩
  obtain ⟨g, o, hA1, -⟩ := hra.2.1 (by rw [enCells_len, hra.1]; omega)
  subst hA1
  have HBL := Lib.hid hbl
  clear hbl
  go_wp2_with fail
  go_loopw [4, 20] (fun v i wr => ∃ k : Nat, k ≤ n ∧ i = .int .i64 k ∧ wr.ownsRow w1.heap.size 3 1 v k (ranksOf bss (bss.take k)) ∧ Below w1.heap.size w1 wr) (fun _ i _ => n - (intOf i).toNat)
  case atStart => exact ⟨0, Nat.zero_le _, rfl, own_empty _ _ _ _ _ rfl (by omega), by go_grown⟩
  case round =>
    obtain ⟨k, hk, rfl, hown, hbb⟩ := hrel
    have HO := Lib.hid hown
    have HR := Lib.hid (own_row_ge hown)
    clear hown
    by_cases hlt : k < n
    · obtain ⟨g', o', e, hA, hg, hek, hc0, hc1, hb⟩ := (hra.keep hbb).at hlt
      injection hA with hA
      injection hA with hA1 hA2
      subst hA1 hA2
      have HE := Lib.hid hek
      clear hek
      go_wp2_with fail
      have hbx := boxes1 (x0 := #[.slice e.a e.n e.c, .string ⟨#[]⟩]) wr 28
      refine (cmpEach_c e.a e.n e.c e.bs _ n c1 es1 z _ (hz.keep (hbb.trans (hbx.below.mono hbb.size))) (hb.keep hbx.below) ((hra.keep hbb).keep hbx.below) (by omega)).mono ?_
      rintro e1 w2 ⟨A2, c2, rfl, hsg, hb2⟩
      rcases hsg.2 with ⟨_, hz⟩ | ⟨g2, cap2, cur2, hv, -⟩
      · exact absurd hz h0
      injection hv with hA2 _ hc2
      subst hA2 hc2
      have hsc := RC.of_own hsg (by rw [signs_len, hra.1]; omega)
      obtain ⟨g3, o3, hA3, hg3, hsc⟩ := hsc
      injection hA3 with hA3
      injection hA3 with hA4 hA5
      subst hA4 hA5
      have HS := Lib.hid hsc
      clear hsc hsg
      have hb3 : Below wr.heap.size wr w2 := hbx.below.trans (hb2.mono hbx.below.size)
      clear hbx hb2 hc0 hc1 hb
      go_wp2_with fail
      go_loop [8, 34] (fun t i => ∃ j : Nat, j ≤ n ∧ i = .int .i64 j ∧ t = .int .i64 (rankOf e.bs (bss.take j))) (fun _ i => n - (intOf i).toNat)
      case atStart => exact ⟨0, Nat.zero_le _, rfl, rfl⟩
      case round =>
        obtain ⟨j, hj, rfl, rfl⟩ := hrel
        have hrb := rank_le e.bs (bss.take j)
        have hrl : (bss.take j).length ≤ j := List.length_take_le _ _
        by_cases hjn : j < n
        · obtain ⟨b, hb⟩ : ∃ b, es1[j]? = some b := ⟨es1[j]'(by rw [hra.1]; exact hjn), List.getElem?_eq_getElem _⟩
          have hcell := HS.out j _ (signs_get e.bs es1 j b hb)
          simp only [Nat.zero_add] at hcell
          have hrk := rank_take e.bs bss j b.bs (by rw [HB.out]; exact bss_get hb)
          have HRK := Lib.hid hrk
          clear hb hrk
          have hcs : cmpOf e.bs b.bs = -1 ∨ cmpOf e.bs b.bs = 0 ∨ cmpOf e.bs b.bs = 1 := by rcases cmpOf_cases e.bs b.bs with h | h | h <;> simp [h.1]
          generalize rankOf e.bs (bss.take j) = r at *
          generalize cmpOf e.bs b.bs = s at *
          rcases hcs with rfl | rfl | rfl
          all_goals
            go_wp2
            go_round
            case rel => exact ⟨j + 1, by omega, by go_num, by rw [HRK.out]; first | rfl | (simp; done) | go_num⟩
            case measure => simp [intOf]; omega
        · have hjn' : j = n := by omega
          subst hjn'
          have hown1 := own_below HO.out hb3
          have hs1 := hb3.size
          have hs0 := hbb.size
          have hrk : rankOf e.bs (bss.take j) = rankOf e.bs bss := by rw [List.take_of_length_le (by rw [HBL.out]; omega)]
          rw [hrk] at hrb ⊢
          clear hrk
          go_wp2_with ((at_builtin; refine append1 rfl _ _ 25 rfl (w1.heap.size) 3 i0 (.int .i64 0) 1 8 Tryd.underlying25 hi hz0 hz1 hz2 rfl (by decide) _ _ _ rfl (hown1) _ _ [.int .i64 (rankOf e.bs bss)] rfl (by simp) rfl rfl (by unfold maxLen; omega) (by omega) (by first | omega | (simp; omega)) ?_))
          intro v' w3 hown2 hgrow
          have hbb3 : Below w1.heap.size w1 w3 := ((hbb.trans (hb3.mono hs0)).alloc (by omega) _).grown hgrow (by simp; omega) HR.out
          rw [← ranksOf_take bss bss k e.bs (by rw [HB.out]; exact bss_get HE.out)] at hown2
          have HO2 := Lib.hid hown2
          clear hown1 hown2 hgrow
          go_wp2
          go_roundw
          case rel => exact ⟨k + 1, by omega, by go_num, HO2.out, hbb3⟩
          case measure => simp [intOf]; omega
    · have hkn : k = n := by omega
      subst hkn
      obtain ⟨wo, hwo⟩ : ∃ wo : World, wo = wr := ⟨_, rfl⟩
      subst hwo
      have hown := HO.out
      rw [List.take_of_length_le (by rw [HBL.out]; omega)] at hown
      obtain ⟨Ar, cr, hu⟩ := own_slice hown
      subst hu
      obtain ⟨gr, hA, hgr, hrc⟩ := own_some hown (by omega)
      subst hA
      have hra1 := hra.keep hbb
      have hzr := hz.keep hbb
      have hbw := hb1.trans (hbb.mono hb1.size)
      have HC := Lib.hid hrc
      clear hrc hown HO HR hra hz hbb hk hlt hi hz0 hz1 hz2
      go_wp2_with fail
      go_loopw [56] (fun i w3 => ∃ i' : Nat, i' ≤ k ∧ i = .int .i64 i' ∧ Below wo.heap.size wo w3) (fun i _ => k - (intOf i).toNat)
      case atStart => exact ⟨0, Nat.zero_le _, rfl, Below.refl _ _⟩
      case round =>
        obtain ⟨p, hp, rfl, hbp⟩ := hrel
        by_cases hpk : p < k
        · obtain ⟨g', o', e, hA, hg, hek, hc0, hc1, hb⟩ := (hra1.keep hbp).at hpk
          injection hA with hA
          injection hA with hA1 hA2
          subst hA1 hA2
          have HE := Lib.hid hek
          clear hek
          go_wp2_with fail
          have hbx := boxes1 (x0 := #[.slice e.a e.n e.c, .string ⟨#[]⟩]) wr 28
          refine (cmpEach_c e.a e.n e.c e.bs _ k c1 es1 z _ (hzr.keep (hbp.trans (hbx.below.mono hbp.size))) (hb.keep hbx.below) ((hra1.keep hbp).keep hbx.below) (by omega)).mono ?_
          rintro e1 w4 ⟨A2, c2, rfl, hsg, hb2⟩
          obtain ⟨g2, hA2, hg2, hsc⟩ := own_some hsg (by omega)
          subst hA2
          have HS := Lib.hid hsc
          have hb3 : Below wo.heap.size wo w4 := hbp.trans ((hbx.below.trans (hb2.mono hbx.below.size)).mono hbp.size)
          clear hbx hb2 hc0 hc1 hb hsc hsg hbp
          go_wp2_with fail
          go_loopw [65] (fun i w5 => ∃ j : Nat, j ≤ k ∧ i = .int .i64 j ∧ Below w4.heap.size w4 w5) (fun i _ => k - (intOf i).toNat)
          case atStart => exact ⟨0, Nat.zero_le _, rfl, Below.refl _ _⟩
          case round =>
            obtain ⟨j, hj, rfl, hb5⟩ := hrel
            by_cases hjk : j < k
            · obtain ⟨b, hb⟩ : ∃ b, es1[j]? = some b := ⟨es1[j]'(by rw [hra1.1]; exact hjk), List.getElem?_eq_getElem _⟩
              have hcell := (hb5.cell (p := ⟨g2, j, none⟩) hg2).trans (HS.out j _ (signs_get e.bs es1 j b hb))
              have hme : e.bs ∈ bss := List.mem_of_getElem? (by rw [HB.out]; exact bss_get HE.out)
              have hmb : b.bs ∈ bss := List.mem_of_getElem? (by rw [HB.out]; exact bss_get hb)
              have hgr4 : gr < w4.heap.size := Nat.lt_of_lt_of_le hgr hb3.size
              have hr1 := (hb5.cell (p := ⟨gr, p, none⟩) hgr4).trans ((hb3.cell (p := ⟨gr, p, none⟩) hgr).trans (HC.out p _ (ranksOf_get bss bss p e.bs (by rw [HB.out]; exact bss_get HE.out))))
              have hr2 := (hb5.cell (p := ⟨gr, j, none⟩) hgr4).trans ((hb3.cell (p := ⟨gr, j, none⟩) hgr).trans (HC.out j _ (ranksOf_get bss bss j b.bs (by rw [HB.out]; exact bss_get hb))))
              have hgr5 : gr < wr.heap.size := Nat.lt_of_lt_of_le hgr4 hb5.size
              have hlaw := ranks_lt e.bs b.bs bss hme hmb
              have hb1' := rank_le e.bs bss
              have hb2' := rank_le b.bs bss
              have hcs : cmpOf e.bs b.bs = -1 ∨ cmpOf e.bs b.bs = 0 ∨ cmpOf e.bs b.bs = 1 := by rcases cmpOf_cases e.bs b.bs with h | h | h <;> simp [h.1]
              clear hb hme hmb hg2 hgr4
              generalize rankOf e.bs bss = r1 at *
              generalize rankOf b.bs bss = r2 at *
              generalize cmpOf e.bs b.bs = s at *
              obtain ⟨l1, l2⟩ := hlaw
              have hcase : (s = -1 ∧ (r1 : Int) < r2) ∨ (s = 0 ∧ r1 = r2) ∨ (s = 1 ∧ (r2 : Int) < r1) := by
                rcases hcs with rfl | rfl | rfl
                · left; exact ⟨rfl, by simpa using l1⟩
                · right; left; exact ⟨rfl, by have : (r1 : Int) = r2 := by simpa using l2
                                              omega⟩
                · right; right; exact ⟨rfl, by simp at l1 l2; omega⟩
              clear l1 l2 hcs
              have d1 : s = -1 ∧ decide (r1 < r2) = true ∧ (r1 == r2) = false ∧ ((r1 : Int) == r2) = false ∨ s = 0 ∧ r1 = r2 ∨ s = 1 ∧ decide (r1 < r2) = false ∧ (r1 == r2) = false ∧ ((r1 : Int) == r2) = false := by
                rcases hcase with ⟨rfl, h⟩ | ⟨rfl, h⟩ | ⟨rfl, h⟩
                · left; exact ⟨rfl, by simp; omega, by simp; omega, by simp; omega⟩
                · right; left; exact ⟨rfl, h⟩
                · right; right; exact ⟨rfl, by simp; omega, by simp; omega, by simp; omega⟩
              clear hcase
              rcases d1 with ⟨rfl, d1, d2, d3⟩ | ⟨rfl, rfl⟩ | ⟨rfl, d1, d2, d3⟩
              all_goals
                go_wp2_with fail
                go_quiet (fail)
                go_wp2
                go_roundw
                case rel => exact ⟨j + 1, by omega, by go_num, hb5.trans ⟨rfl, rfl, rfl, Nat.le_refl _, fun _ _ => rfl⟩⟩
                case measure => simp [intOf]; omega
            · have hjk' : j = k := by omega
              have hb6 : Below wo.heap.size wo wr := hb3.trans (hb5.mono hb3.size)
              clear hjk hj
              go_wp2
              go_roundw
              case rel => exact ⟨p + 1, by omega, by go_num, hb6⟩
              case measure => simp [intOf]; omega
        · have hpk' : p = k := by omega
          go_wp2
          go_returns
          exact ⟨rfl, hbw.trans (hbp.mono hbw.size)⟩
end Go.Proofs.YtocckokbdacdfaaDoor
