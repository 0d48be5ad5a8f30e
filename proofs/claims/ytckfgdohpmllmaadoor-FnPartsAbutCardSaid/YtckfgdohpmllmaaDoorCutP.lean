/-
  The walk of laws.cutParts.
-/
import Derived.Test.YtckfgdohpmllmaaDoorCutL
namespace Go.Proofs.YtckfgdohpmllmaaDoor
open Go Go.RowKit
theorem ownPf.put {w : World} {B : Nat} {es : List Pf} (h : ownPf w B es) {g : Nat} {cs : Array Value} (hg : Blk w g 29 cs) (i : Nat) (u : Value) : ownPf (w.setCell ⟨g, i, none⟩ u) B es := fun e he => own_set (h e he) hg (by decide) i u
set_option maxRecDepth 100000 in
set_option maxHeartbeats 16000000 in
theorem cutParts_c (A : Option Addr) (n c : Nat) (bs : List UInt8) (x : UInt8) (T : Option Addr) (tn tc : Nat) (ts : List UInt8) (w : World) (hr : RB w A n bs) (hA : A = none → n = 0 ∧ c = 0) (hn : n ≤ 140737488355328) (ht : RB w T tn ts) (htn : tn ≤ 140737488355328) :
    Calls Tryd.prog 28 #[.slice A n c, .int .u8 x.toNat, .slice T tn tc] w (CutPost w bs x) := by
  obtain ⟨i0, hi, hz0, hz1, hz2⟩ := info_parts infoPf
  obtain ⟨m1, m2, m3⟩ := one_made A n c bs x hr hA hn
  have hlen := hr.1
  have hmz := madeZ_one A n c bs x
  go_enter Tryd.func28, Tryd.ntmps28
  go_wp2_with fail
  refine (made_c _ 1 _ _ _ 1 _ [x] _ m1 (by omega) m2 (by omega)).mono ?_
  rintro e0 w1 ⟨v1, rfl, ⟨A1, c1, es, rfl, hown, hmap, hin⟩, hb1'⟩
  have hb1 := m3.trans (hb1'.mono m3.size)
  rw [hmz] at hmap
  have hO := own_mono hown m3.size
  have hI : ownPf w1 w.heap.size es := fun y hy => own_mono (hin y hy) m3.size
  clear hb1' hmz m1 m2 hown hin
  by_cases hl : isLen bs.length
  · rw [if_pos hl] at hmap
    obtain ⟨e, rfl⟩ : ∃ e, es = [e] := List.length_eq_one_iff.1 (by have := congrArg List.length hmap; simpa using this)
    simp only [List.map_cons, List.map_nil, List.cons.injEq, and_true] at hmap
    have hen : e.n = bs.length := by rw [← (RB.of_own (hI e (by simp))).1, show e.bs = bs from congrArg Prod.fst hmap]
    have hci := CutInv.start bs _ e (by have := Nat.mod_lt x.toNat (show 0 < 8 * bs.length + 1 by omega); omega) hmap hen
    clear hmap hen
    obtain ⟨k0, hk0⟩ : ∃ k0, k0 = x.toNat % (8 * bs.length + 1) := ⟨_, rfl⟩
    rw [← hk0] at hci
    have HK0 := Lib.hid hk0
    clear hk0
    go_wp2_with fail
    go_loopw [7, 19] (fun v i wr => ∃ (t : Nat) (es' : List Pf), t ≤ tn ∧ i = .int .i64 t ∧ wr.ownsRow w.heap.size 29 3 v es'.length (pfCells es') ∧ ownPf wr w.heap.size es' ∧ CutInv bs k0 es' ∧ Below w.heap.size w wr) (fun _ i _ => tn - (intOf i).toNat)
    case atStart => exact ⟨0, [e], Nat.zero_le _, rfl, hO, hI, hci, hb1⟩
    case round =>
      clear hO hI hci
      obtain ⟨t, es', ht', rfl, hown, hin, hC, hbb⟩ := hrel
      by_cases htl : t < tn
      · obtain ⟨g2, o2, hB, hg2, hc2⟩ := (ht.keep hbb).2 (by omega)
        subst hB
        have hcx := hc2 t htl
        have hx256 : (ts.getD t 0).toNat < 256 := (ts.getD t 0).toBitVec.isLt
        generalize (ts.getD t 0).toNat = y at *
        have hpos := hC.some
        have hsm := hC.small hl
        obtain ⟨L, hL⟩ : ∃ L, L = es'.length := ⟨_, rfl⟩
        rw [← hL] at hown hpos hsm
        have hdp : (y : Int) % (L : Int) = ((y % L : Nat) : Int) := by push_cast; rfl
        have hil : y % L < L := Nat.mod_lt _ hpos
        have hi256 : y % L < 256 := Nat.lt_of_le_of_lt (Nat.mod_le _ _) hx256
        obtain ⟨A1, c1, rfl⟩ := own_slice hown
        obtain ⟨g1, hA1, hg1, hcell⟩ := own_some hown hpos
        subst hA1
        generalize y % L = i at *
        have hkc := pfCells_get es' i (by omega)
        have hei : es'[i]? = some es'[i] := List.getElem?_eq_getElem (by omega)
        have hem := List.mem_of_getElem? hei
        generalize es'[i] = e at *
        have r0 := hcell _ _ hkc.1
        have r1 := hcell _ _ hkc.2.1
        have r2 := hcell _ _ hkc.2.2
        obtain ⟨l1, l2, l3, l4⟩ := hC.ln e hem
        have hoe := hin e hem
        obtain ⟨ea, en, ec, eb, ek⟩ := e
        simp only at r0 r1 r2 l1 l2 l3 l4 hoe
        have HC := Lib.hid (And.intro hC (And.intro hei hL))
        have HO := Lib.hid (And.intro hown hin)
        have HOE := Lib.hid hoe
        have HLN := Lib.hid (And.intro l1 (And.intro l2 (And.intro l3 l4)))
        have hisl : isLen en := by rw [l2]; exact hl
        have hn16 : en ≤ 16 := by unfold isLen at hisl; omega
        clear hkc hcell hei hem hC hown hin hoe l1 l3 l4 hc2 hL
        have hxa : Below wr.heap.size wr (wr.alloc (.cells #[.slice ea en ec, .string ⟨#[]⟩, .int .i64 ek] 29)) := (Below.refl _ _).alloc (Nat.le_refl _) _
        have hbox : Blk (wr.alloc (.cells #[.slice ea en ec, .string ⟨#[]⟩, .int .i64 ek] 29)) wr.heap.size 29 #[.slice ea en ec, .string ⟨#[]⟩, .int .i64 ek] := heap_alloc_new _ _
        by_cases hck : ek < 8 * en
        · clear l2
          go_wp2_with fail
          have hq : RB (wr.alloc (.cells #[.slice ea en ec, .string ⟨#[]⟩, .int .i64 ek] 29)) ea en eb := RB.of_own (own_below HOE.out hxa)
          refine (half_c ea en ec eb ek false _ hq hisl hck).mono ?_
          rintro e1 w6 ⟨v6, rfl, ⟨A6, c6, rfl, hown6⟩, hb6⟩
          obtain ⟨gB, hgB⟩ : ∃ gB, gB = wr.heap.size := ⟨_, rfl⟩
          have hbox6 := hbox.below hb6
          rw [← hgB] at hbox6 ⊢
          have hne : g1 ≠ gB := by omega
          have hne' : gB ≠ g1 := by omega
          have hb06 := hxa.trans (hb6.mono hxa.size)
          have hbb6 := hbb.trans (hb06.mono hbb.size)
          have hO6 := own_below HO.out.1 hb06
          have hI6 := HO.out.2.below hb06
          have hE6 := own_mono hown6 (Nat.le_trans hbb.size hxa.size)
          have hEE6 := own_below HOE.out hb06
          obtain ⟨cur, hblk, -, -, -, hBg⟩ := own_rowBlk hO6
          have f6 := hblk.free
          have l6 := hblk.lt
          have c0 := (hb06.cell (p := ⟨g1, i * 3, none⟩) hg1).trans r0
          have c1' := (hb06.cell (p := ⟨g1, i * 3 + 1, none⟩) hg1).trans r1
          have c2 := (hb06.cell (p := ⟨g1, i * 3 + 2, none⟩) hg1).trans r2
          have rB := hbox6.cell
          have lB := hbox6.lt
          obtain ⟨k1, hk1⟩ : ∃ k1, k1 = ek + 1 := ⟨_, rfl⟩
          have HK1 := Lib.hid hk1
          rw [← hk1]
          have hO7 := own_put (own_put (own_put hO6 (i * 3) (.slice A6 en c6)) (i * 3 + 1) (.string ⟨#[]⟩)) (i * 3 + 2) (.int .i64 k1)
          have hps := pfCells_set es' i ⟨A6, en, c6, halfB eb ek false, k1⟩ (by have := HC.out.2.2; omega)
          simp only at hps
          rw [hps] at hO7
          have s1 := hblk.set (i * 3) (.slice A6 en c6)
          have s2 := s1.set (i * 3 + 1) (.string ⟨#[]⟩)
          have s3 := s2.set (i * 3 + 2) (.int .i64 k1)
          have hI7 := ((hI6.put hblk (i * 3) (.slice A6 en c6)).put s1 (i * 3 + 1) (.string ⟨#[]⟩)).put s2 (i * 3 + 2) (.int .i64 k1)
          have hE7 := own_set (own_set (own_set hE6 hblk (by decide) (i * 3) (.slice A6 en c6)) s1 (by decide) (i * 3 + 1) (.string ⟨#[]⟩)) s2 (by decide) (i * 3 + 2) (.int .i64 k1)
          have hEE7 := own_set (own_set (own_set hEE6 hblk (by decide) (i * 3) (.slice A6 en c6)) s1 (by decide) (i * 3 + 1) (.string ⟨#[]⟩)) s2 (by decide) (i * 3 + 2) (.int .i64 k1)
          have hb7 := ((hbb6.setCell (p := ⟨g1, i * 3, none⟩) hBg (.slice A6 en c6)).setCell (p := ⟨g1, i * 3 + 1, none⟩) hBg (.string ⟨#[]⟩)).setCell (p := ⟨g1, i * 3 + 2, none⟩) hBg (.int .i64 k1)
          have hbox7 : Blk (((w6.setCell ⟨g1, i * 3, none⟩ (.slice A6 en c6)).setCell ⟨g1, i * 3 + 1, none⟩ (.string ⟨#[]⟩)).setCell ⟨g1, i * 3 + 2, none⟩ (.int .i64 k1)) gB 29 #[.slice ea en ec, .string ⟨#[]⟩, .int .i64 ek] :=
            (Below.heap_setCell _ _ _ _ hne').trans ((Below.heap_setCell _ _ _ _ hne').trans ((Below.heap_setCell _ _ _ _ hne').trans hbox6))
          have H7 := Lib.hid (And.intro hO7 (And.intro hI7 (And.intro hE7 (And.intro hEE7 (And.intro hb7 hbox7)))))
          clear hO7 hI7 hE7 hEE7 hb7 hbox7 s1 s2 s3 hps hk1 hO6 hI6 hE6 hEE6 hown6 hblk hbox6 hbb6 hb06 hb6 hq hbox r0 r1 r2 hgB
          go_wp2_with fail
          obtain ⟨hO7, hI7, hE7, hEE7, hb7, hbox7⟩ := H7.out
          clear H7 c0 c1' c2 f6 l6 rB lB
          generalize ((w6.setCell ⟨g1, i * 3, none⟩ (.slice A6 en c6)).setCell ⟨g1, i * 3 + 1, none⟩ (.string ⟨#[]⟩)).setCell ⟨g1, i * 3 + 2, none⟩ (.int .i64 k1) = w7 at *
          refine (half_c ea en ec eb ek true _ (RB.of_own hEE7) hisl hck).mono ?_
          rintro e1 w8 ⟨v8, rfl, ⟨A8, c8, rfl, hown8⟩, hb8⟩
          rw [← HK1.out]
          have hbb8 := hb7.trans (hb8.mono hb7.size)
          have hF8 : ownPf w8 w.heap.size (es'.set i ⟨A6, en, c6, halfB eb ek false, k1⟩ ++ [⟨A8, en, c8, halfB eb ek true, k1⟩]) := fun y hy => by
            rcases List.mem_append.1 hy with hy | hy
            · rcases List.mem_or_eq_of_mem_set hy with hy | rfl
              · exact own_below (hI7 y hy) hb8
              · exact own_below hE7 hb8
            · simp at hy; subst hy; exact own_mono hown8 hb7.size
          have hsz8 := hbb8.size
          have HO8 := Lib.hid (own_below hO7 hb8)
          have HF8 := Lib.hid hF8
          clear hO7 hI7 hE7 hEE7 hb7 hbox7 hown8 hF8 hb8
          go_wp2_with ((at_builtin; refine append1 rfl _ _ 23 rfl (w.heap.size) 29 i0 (.agg #[.slice none 0 0, .string ⟨#[]⟩, .int .i64 0]) 3 48 Tryd.underlying23 hi hz0 hz1 hz2 rfl (by decide) _ _ _ rfl (HO8.out) _ _ [.slice A8 en c8, .string ⟨#[]⟩, .int .i64 k1] rfl (by simp) rfl rfl (by unfold maxLen; omega) (by omega) (by first | omega | (simp; omega)) ?_))
          intro v9 w9 hown9 hgrow
          have hxb : Below w8.heap.size w8 (w8.alloc (.cells #[.slice A8 en c8, .string ⟨#[]⟩, .int .i64 k1] 29)) := (Below.refl _ _).alloc (Nat.le_refl _) _
          have hE9 := (HF8.out.below hxb).grown (own_below HO8.out hxb) (by decide) hgrow
          have hb9 : Below w.heap.size w w9 := (hbb8.trans (hxb.mono hbb8.size)).grown hgrow (Nat.le_trans hbb8.size hxb.size) (own_row_ge HO8.out)
          have hC9 := HC.out.1.step i _ HC.out.2.1 hi256 (by show ek < _; rw [← HLN.out.2.1]; exact hck) A6 A8 c6 c8
          simp only [← HLN.out.2.1, ← HK1.out] at hC9
          have he9 : w9.ownsRow w.heap.size 29 3 v9 (es'.set i ⟨A6, en, c6, halfB eb ek false, k1⟩ ++ [(⟨A8, en, c8, halfB eb ek true, k1⟩ : Pf)]).length (pfCells (es'.set i ⟨A6, en, c6, halfB eb ek false, k1⟩ ++ [(⟨A8, en, c8, halfB eb ek true, k1⟩ : Pf)])) := by
            rw [pfCells_append, List.length_append, List.length_set, ← HC.out.2.2]; exact hown9
          generalize es'.set i ⟨A6, en, c6, halfB eb ek false, k1⟩ ++ [(⟨A8, en, c8, halfB eb ek true, k1⟩ : Pf)] = es3 at *
          have G1 := Lib.hid he9
          have G2 := Lib.hid hE9
          have G3 := Lib.hid hC9
          clear he9 hE9 hC9 hown9 hgrow hxb HO8 HF8
          go_wp2
          go_roundw
          case rel => exact ⟨t + 1, es3, by omega, by go_num, G1.out, G2.out, G3.out, hb9⟩
          case measure => simp [intOf]; omega
        · clear l2
          have hbb2 := hbb.trans (hxa.mono hbb.size)
          have G1 := Lib.hid (own_below HO.out.1 hxa)
          have G2 := Lib.hid (HO.out.2.below hxa)
          go_wp2
          go_roundw
          case rel => exact ⟨t + 1, es', by omega, by go_num, by rw [← HC.out.2.2]; exact G1.out, G2.out, HC.out.1, hbb2⟩
          case measure => simp [intOf]; omega
      · obtain rfl : t = tn := by omega
        obtain ⟨A', c', rfl⟩ := own_slice hown
        have G1 := Lib.hid hown
        have G2 := Lib.hid hin
        have G3 := Lib.hid hC
        clear hown hin hC
        go_wp2
        go_returns
        exact ⟨A', c', es', rfl, G1.out, G2.out, fun _ => by rw [← HK0.out]; exact G3.out, fun h => absurd hl h, hbb⟩
  · rw [if_neg hl] at hmap
    obtain rfl : es = [] := List.map_eq_nil_iff.1 hmap
    have HO := Lib.hid hO
    clear hO hI hmap
    obtain ⟨A1', c1', hA1⟩ := own_slice HO.out
    by_cases ht0 : tn = 0
    · subst ht0
      go_wp2_with fail
      refine wp_loop_rounds 1 ?_
      rw [rounds_succ]
      go_wp2
      go_returns
      exact ⟨_, _, [], rfl, HO.out, fun e he => (by simp at he), fun h => absurd h hl, fun _ => rfl, hb1⟩
    · obtain ⟨g2, o2, hB, hg2, hc2⟩ := (ht.keep hb1).2 (by omega)
      subst hB
      have hcx := hc2 0 (by omega)
      rw [Nat.add_zero] at hcx
      generalize (ts.getD 0 0).toNat = y at *
      have htp : 0 < tn := by omega
      clear hc2
      go_wp2_with fail
      refine wp_loop_rounds 1 ?_
      rw [rounds_succ]
      go_wp2
      go_returns
      exact ⟨_, _, [], rfl, HO.out, fun e he => (by simp at he), fun h => absurd h hl, fun _ => rfl, hb1⟩
end Go.Proofs.YtckfgdohpmllmaaDoor
