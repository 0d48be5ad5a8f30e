/-
  Contract of laws.sortedPrefixes.
-/
import Derived.Test.YtckfgdohpmllmaaDoorSortL
namespace Go.Proofs.YtckfgdohpmllmaaDoor
open Go Go.RowKit
/-- What sortedPrefixes hands back. -/
def SortPost (w : World) (es : List Pf) (e : Ending) (w' : World) : Prop :=
  ∃ A' c' es', e = .returned (.slice A' es.length c') ∧ w'.ownsRow w.heap.size 29 3 (.slice A' es.length c') es.length (pfCells es') ∧ SortOf es es' ∧ Below w.heap.size w w'
theorem SortOf.push {es es' : List Pf} {e : Pf} {j k : Nat} (h : SortOf (es.take j) es') (he : es[j]? = some e) (hd : Down es' e k) (hb : k = 0 ∨ ∃ i q, k = i + 1 ∧ es'[i]? = some q ∧ pkey q.is ≤ pkey e.is) : SortOf (es.take (j + 1)) (midL es' e k) := by
  refine ⟨(midL_perm es' e k).trans ?_, hd.done h.2 hb⟩
  rw [List.take_add_one, he, Option.toList_some]
  exact h.1.append_right _
theorem pfCells_at (es : List Pf) (i : Nat) (e : Pf) (h : es[i]? = some e) : (pfCells es)[i * 3]? = some (.slice e.a e.n e.c) ∧ (pfCells es)[i * 3 + 1]? = some (.string ⟨#[]⟩) ∧ (pfCells es)[i * 3 + 2]? = some (.int .i64 e.k) := by
  obtain ⟨hi, rfl⟩ := List.getElem?_eq_some_iff.1 h
  exact pfCells_get es i hi
set_option maxRecDepth 100000 in
theorem sorted_none (A : Option Addr) (c : Nat) (w : World) :
    Calls Tryd.prog 31 #[.slice A 0 c] w (SortPost w []) := by
  go_enter Tryd.func31, Tryd.ntmps31
  go_wp2_with fail
  refine wp_loop_rounds 1 ?_
  rw [rounds_succ]
  go_wp2
  go_returns
  exact ⟨_, _, [], rfl, World.ownsRow_nil _ _ _ _, ⟨List.Perm.refl _, List.Pairwise.nil⟩, by go_grown⟩
set_option maxRecDepth 100000 in
set_option maxHeartbeats 16000000 in
theorem sorted_some (g o n c : Nat) (es : List Pf) (z : ZP) (w : World) (hz : Zs w z) (hl : RP w (some ⟨g, o, none⟩) n es) (hv : ∀ e ∈ es, Vp e.is) (hn : n ≤ 1099511627776) :
    Calls Tryd.prog 31 #[.slice (some ⟨g, o, none⟩) n c] w (SortPost w es) := by
  obtain ⟨i0, hi, hz0, hz1, hz2⟩ := info_parts infoPf
  go_enter Tryd.func31, Tryd.ntmps31
  go_wp2_with fail
  go_loopw [3, 10] (fun v i wr => ∃ (j : Nat) (es' : List Pf), j ≤ n ∧ i = .int .i64 j ∧ wr.ownsRow w.heap.size 29 3 v j (pfCells es') ∧ SortOf (es.take j) es' ∧ Below w.heap.size w wr) (fun _ i _ => n - (intOf i).toNat)
  case atStart => exact ⟨0, [], Nat.zero_le _, rfl, World.ownsRow_nil _ _ _ _, ⟨List.Perm.refl _, List.Pairwise.nil⟩, Below.refl _ _⟩
  case round =>
    obtain ⟨j, es', hj, rfl, hown, hsort, hbb⟩ := hrel
    have HS := Lib.hid hsort
    clear hsort
    by_cases hlt : j < n
    · obtain ⟨g', o', e, hA, hg, hek, hc0, hc1, hc2, hb⟩ := (hl.keep hbb).at hlt
      injection hA with hA
      injection hA with hA1 hA2
      subst hA1 hA2
      have hem := List.mem_of_getElem? hek
      have hve := hv e hem
      have hel : es'.length = j := by have := HS.out.1.length_eq; rw [this, List.length_take, hl.1]; omega
      have hes : ∀ q ∈ es', q ∈ es := fun q hq => List.mem_of_mem_take (HS.out.1.subset hq)
      have HEK := Lib.hid (And.intro hek (And.intro hem (And.intro hes hel)))
      have HO := Lib.hid hown
      have hxa : Below wr.heap.size wr (wr.alloc (.cells #[.slice e.a e.n e.c, .string ⟨#[]⟩, .int .i64 e.k] 29)) := (Below.refl _ _).alloc (Nat.le_refl _) _
      have HX := Lib.hid hxa
      have HOA := Lib.hid (own_below hown hxa)
      have hsz := hbb.size
      clear hown hek hem hes hel hxa
      go_wp2_with ((at_builtin; refine append1 rfl _ _ 23 rfl (w.heap.size) 29 i0 (.agg #[.slice none 0 0, .string ⟨#[]⟩, .int .i64 0]) 3 48 Tryd.underlying23 hi hz0 hz1 hz2 rfl (by decide) _ _ _ rfl (HOA.out) _ _ [.slice e.a e.n e.c, .string ⟨#[]⟩, .int .i64 e.k] rfl (by simp) rfl rfl (by unfold maxLen; omega) (by omega) (by first | omega | (simp; omega)) ?_))
      intro v8 w8 hown8 hgrow
      have hxb : Below (wr.alloc (.cells #[.slice e.a e.n e.c, .string ⟨#[]⟩, .int .i64 e.k] 29)).heap.size (wr.alloc (.cells #[.slice e.a e.n e.c, .string ⟨#[]⟩, .int .i64 e.k] 29)) ((wr.alloc (.cells #[.slice e.a e.n e.c, .string ⟨#[]⟩, .int .i64 e.k] 29)).alloc (.cells #[.slice e.a e.n e.c, .string ⟨#[]⟩, .int .i64 e.k] 29)) := (Below.refl _ _).alloc (Nat.le_refl _) _
      have hxc := HX.out.trans (hxb.mono HX.out.size)
      have hb8 : Below w.heap.size w w8 := (hbb.trans (hxc.mono hbb.size)).grown hgrow (Nat.le_trans hbb.size hxc.size) (own_row_ge HO.out)
      obtain ⟨A8, c8, rfl⟩ := own_slice hown8
      obtain ⟨g8, hA8, -, -⟩ := own_some hown8 (by omega)
      subst hA8
      have hcl : pfCells es' ++ [.slice e.a e.n e.c, .string ⟨#[]⟩, .int .i64 e.k] = pfCells (midL es' e j) := by
        rw [← HEK.out.2.2.2, midL_end, pfCells_append]; rfl
      rw [hcl] at hown8
      have HO8 := Lib.hid hown8
      clear hcl hown8 hgrow hxb hxc HX HOA HO hc0 hc1 hc2 hb hbb hsz hg
      go_wp2_with fail
      obtain ⟨wo, hwo⟩ : ∃ wo, wo = wr := ⟨_, rfl⟩
      subst hwo
      go_loopw [6] (fun i wr2 => ∃ (k : Nat), k ≤ j ∧ i = .int .i64 k ∧ wr2.ownsRow w.heap.size 29 3 (.slice (some ⟨g8, 0, none⟩) (j + 1) c8) (j + 1) (pfCells (midL es' e k)) ∧ Down es' e k ∧ Below w.heap.size w wr2) (fun i _ => (intOf i).toNat)
      case atStart => exact ⟨j, Nat.le_refl _, by go_num, HO8.out, fun y hy => (by rw [List.drop_of_length_le (by rw [HEK.out.2.2.2]; omega)] at hy; simp at hy), hb8⟩
      case round =>
        clear HO8 hb8
        obtain ⟨k, hk, rfl, hown2, hdown, hbb2⟩ := hrel
        have hdr : Below wr.heap.size wr wr.drew := ⟨rfl, rfl, rfl, Nat.le_refl _, fun _ _ => rfl⟩
        have HD := Lib.hid hdown
        have HO2 := Lib.hid hown2
        cases k with
        | zero =>
          clear hown2 hdown
          go_wp2_with fail
          refine region_pick (Below wr.heap.size wr) [(0, false, none), (1, false, none), (2, false, none), (3, false, none), (4, false, none), (5, false, none), (6, false, none), (7, false, none), (8, false, none), (9, false, none), (10, false, none), (11, false, none), (12, false, none), (13, false, none), (14, false, none)] 15 (by kernel_rfl) (by kernel_rfl) (fun w w' h hb => h.trans (hb.mono h.size)) (hdr) ?_
          simp only [pickOps, List.getElem?_cons_zero, List.getElem?_cons_succ]
          repeat (first | (refine t_skip rfl ?_; (simp only [Act.put, List.setIfInBounds_toArray, List.set_cons_zero, List.set_cons_succ])) | (refine t_run ?_ rfl (fun w1 hw1 => ?_) ?_; rotate_left; (go_simp; try (with_reducible rfl)); (simp only [Act.put, List.setIfInBounds_toArray, List.set_cons_zero, List.set_cons_succ])))
          intro w9 hw9
          simp only [List.drop_succ_cons, List.drop_zero]
          have hS := HS.out.push HEK.out.1 HD.out (.inl rfl)
          have hO9 := own_below HO2.out hw9
          have hb9 := hbb2.trans (hw9.mono hbb2.size)
          have G1 := Lib.hid hS
          have G2 := Lib.hid hO9
          clear hS hO9
          go_wp2
          go_roundw
          case rel => exact ⟨j + 1, _, by omega, by go_num, G2.out, G1.out, hb9⟩
          case measure => simp [intOf]; omega
        | succ k =>
          obtain ⟨q, hqk⟩ : ∃ q, es'[k]? = some q := ⟨es'[k]'(by have := HEK.out.2.2.2; omega), List.getElem?_eq_getElem _⟩
          have hqm := HEK.out.2.2.1 q (List.mem_of_getElem? hqk)
          have hvq := hv q hqm
          have hel := HEK.out.2.2.2
          obtain ⟨gg, hgg, hltg, hcell⟩ := own_some hown2 (by omega)
          injection hgg with hgg
          injection hgg with hgg
          subst hgg
          obtain ⟨a0, a1, a2⟩ := pfCells_at _ _ _ (midL_at es' e (k + 1) (by omega))
          obtain ⟨b0, b1, b2⟩ := pfCells_at _ _ _ ((midL_before es' e k (by omega)).trans hqk)
          have rC : ∀ w', Below wr.heap.size wr w' → w'.cell? ⟨g8, (k + 1) * 3, none⟩ = some (.slice e.a e.n e.c) ∧ w'.cell? ⟨g8, (k + 1) * 3 + 1, none⟩ = some (.string ⟨#[]⟩) ∧ w'.cell? ⟨g8, (k + 1) * 3 + 2, none⟩ = some (.int .i64 e.k) ∧
              w'.cell? ⟨g8, k * 3, none⟩ = some (.slice q.a q.n q.c) ∧ w'.cell? ⟨g8, k * 3 + 1, none⟩ = some (.string ⟨#[]⟩) ∧ w'.cell? ⟨g8, k * 3 + 2, none⟩ = some (.int .i64 q.k) := fun w' h =>
            ⟨(h.cell (p := ⟨g8, (k + 1) * 3, none⟩) hltg).trans (hcell _ _ a0), (h.cell (p := ⟨g8, (k + 1) * 3 + 1, none⟩) hltg).trans (hcell _ _ a1), (h.cell (p := ⟨g8, (k + 1) * 3 + 2, none⟩) hltg).trans (hcell _ _ a2),
              (h.cell (p := ⟨g8, k * 3, none⟩) hltg).trans (hcell _ _ b0), (h.cell (p := ⟨g8, k * 3 + 1, none⟩) hltg).trans (hcell _ _ b1), (h.cell (p := ⟨g8, k * 3 + 2, none⟩) hltg).trans (hcell _ _ b2)⟩
          have hre := (hl.keep hbb2).2.2 e HEK.out.2.1
          have hrq := (hl.keep hbb2).2.2 q hqm
          have hcp := cmpP_key e.bs q.bs e.k q.k hve.k8 hvq.k8
          have hcc := fun w hz h1 h2 => compared_c e.a q.a e.n q.n e.c q.c e.bs q.bs e.k q.k z w hz h1 h2 hve.1 hve.2 hvq.1 hvq.2
          generalize cmpP e.bs e.k q.bs q.k = C at *
          have HCP := Lib.hid (And.intro hcp hqk)
          have j1 : IntKind.i64.wrap (k : Int) = (k : Int) := by rw [IntKind.wrap_i64]; omega
          have j2 : (0 : Int) ≤ (k : Int) + 1 ∧ (k : Int) + 1 < (j : Int) + 1 := by omega
          have j3 : (0 : Int) ≤ (k : Int) ∧ (k : Int) < (j : Int) + 1 := by omega
          have j4 : ((k : Int) + 1).toNat = k + 1 := by omega
          have j5 : (0 : Int) < (k : Int) + 1 := by omega
          have HJ := Lib.hid (And.intro j1 (And.intro j2 (And.intro j3 (And.intro j4 j5))))
          clear hcp hqk hel hown2 hdown a0 a1 a2 b0 b1 b2 hcell j1 j2 j3 j4 j5
          go_wp2_with fail
          refine region_pick (Below wr.heap.size wr) [(0, false, none), (1, false, none), (2, false, none), (3, false, none), (4, false, none), (5, false, none), (6, false, none), (7, false, none), (8, false, none), (9, false, none), (10, false, none), (11, false, none), (12, false, none), (13, false, none), (14, false, none)] 15 (by kernel_rfl) (by kernel_rfl) (fun w w' h hb => h.trans (hb.mono h.size)) (hdr) ?_
          simp only [pickOps, List.getElem?_cons_zero, List.getElem?_cons_succ]
          repeat (first | (refine t_skip rfl ?_; (simp only [Act.put, List.setIfInBounds_toArray, List.set_cons_zero, List.set_cons_succ])) | (refine t_run ?_ rfl (fun w1 hw1 => ?_) ?_; rotate_left; (have r0 := (rC w1 hw1).1; have r1 := (rC w1 hw1).2.1; have r2 := (rC w1 hw1).2.2.1; have r3 := (rC w1 hw1).2.2.2.1; have r4 := (rC w1 hw1).2.2.2.2.1; have r5 := (rC w1 hw1).2.2.2.2.2; have r6 := HJ.out.1; have r7 := HJ.out.2.1; have r8 := HJ.out.2.2.1; have r9 := HJ.out.2.2.2.1; have r10 := HJ.out.2.2.2.2; go_simp; try (with_reducible rfl)); (simp only [Act.put, List.setIfInBounds_toArray, List.set_cons_zero, List.set_cons_succ])) | (refine t_call ?_ ?_ ?_ rfl (fun w1 hw1 => ?_) (fun w1 hw1 => ?_) ?_; rotate_left 3; (have r0 := (rC w1 hw1).1; have r1 := (rC w1 hw1).2.1; have r2 := (rC w1 hw1).2.2.1; have r3 := (rC w1 hw1).2.2.2.1; have r4 := (rC w1 hw1).2.2.2.2.1; have r5 := (rC w1 hw1).2.2.2.2.2; have r6 := HJ.out.1; have r7 := HJ.out.2.1; have r8 := HJ.out.2.2.1; have r9 := HJ.out.2.2.2.1; have r10 := HJ.out.2.2.2.2; go_simp; refine ⟨?_, ?_⟩ <;> with_reducible rfl); (first | (go_at_call 33; (with_reducible refine (hcc w1 (hz.keep (hbb2.trans (hw1.mono hbb2.size))) (hre.keep hw1) (hrq.keep hw1)).mono ?_); rintro e w2 ⟨rfl, hb⟩; refine ⟨?_, hb⟩; with_reducible rfl) | (go_at_call 33; (refine (hcc w1 (hz.keep (hbb2.trans (hw1.mono hbb2.size))) (hre.keep hw1) (hrq.keep hw1)).mono ?_); rintro e w2 ⟨rfl, hb⟩; refine ⟨?_, hb⟩; with_reducible rfl)); (simp only [Act.put, List.setIfInBounds_toArray, List.set_cons_zero, List.set_cons_succ])))
          intro w9 hw9
          simp only [List.drop_succ_cons, List.drop_zero]
          have hb9 := hbb2.trans (hw9.mono hbb2.size)
          have hO9 := own_below HO2.out hw9
          have hkey : C < 0 ↔ pkey e.is < pkey q.is := by
            have h1 := HCP.out.1
            have e1 : pkey (e.bs, e.k) = pkey e.is := rfl
            have e2 : pkey (q.bs, q.k) = pkey q.is := rfl
            rw [e1, e2] at h1
            rcases cmpI_cases (pkey e.is) (pkey q.is) with ⟨h2, h3⟩ | ⟨h2, h3⟩ | ⟨h2, h3⟩ <;> rw [h1, h2] <;> omega
          have HK := Lib.hid hkey
          clear hcc hre hrq hkey
          by_cases hC : C < 0
          · obtain ⟨cur, hblk, -, -, -, hBg⟩ := own_rowBlk hO9
            have f9 := hblk.free
            have l9 := hblk.lt
            obtain ⟨p0, p1, p2, p3, p4, p5⟩ := rC w9 hw9
            have hxa : Below w9.heap.size w9 (w9.alloc (.cells #[.slice e.a e.n e.c, .string ⟨#[]⟩, .int .i64 e.k] 29)) := (Below.refl _ _).alloc (Nat.le_refl _) _
            have hbox : Blk (w9.alloc (.cells #[.slice e.a e.n e.c, .string ⟨#[]⟩, .int .i64 e.k] 29)) w9.heap.size 29 #[.slice e.a e.n e.c, .string ⟨#[]⟩, .int .i64 e.k] := heap_alloc_new _ _
            have hO10 := own_below hO9 hxa
            have hb10 := hb9.trans (hxa.mono hb9.size)
            have hkj : k < j + 1 ∧ k + 1 < j + 1 := by omega
            have hne : g8 ≠ w9.heap.size := by omega
            have hD := HD.out.step HCP.out.2 (HK.out.1 hC)
            have G3 := Lib.hid hD
            obtain ⟨gX, hgX⟩ : ∃ gX, gX = w9.heap.size := ⟨_, rfl⟩
            have HGX := Lib.hid hgX
            have HX := Lib.hid (And.intro hO10 (And.intro hb10 hbox))
            clear hD rC hblk hxa HO2 HD hb9 hO9 hO10 hb10 hbox hgX
            go_upto_region 10 with fail
            obtain ⟨hO10, hb10, hbox⟩ := HX.out
            rw [← HGX.out] at hne hbox ⊢
            clear HX HGX p0 p1 p2 p3 p4 p5 f9 l9
            generalize w9.alloc (.cells #[.slice e.a e.n e.c, .string ⟨#[]⟩, .int .i64 e.k] 29) = w10 at *
            obtain ⟨cur2, hblk, -, -, -, -⟩ := own_rowBlk hO10
            obtain ⟨gg, hgg, hltg2, hcell⟩ := own_some hO10 (by omega)
            injection hgg with hgg
            injection hgg with hgg
            subst hgg
            obtain ⟨a0, a1, a2⟩ := pfCells_at _ _ _ (midL_at es' e (k + 1) (by have := HEK.out.2.2.2; omega))
            obtain ⟨b0, b1, b2⟩ := pfCells_at _ _ _ ((midL_before es' e k (by have := HEK.out.2.2.2; omega)).trans HCP.out.2)
            replace a0 := hcell _ _ a0
            replace a1 := hcell _ _ a1
            replace a2 := hcell _ _ a2
            replace b0 := hcell _ _ b0
            replace b1 := hcell _ _ b1
            replace b2 := hcell _ _ b2
            have f10 := hblk.free
            have hO11 := own_put (own_put (own_put hO10 ((k + 1) * 3) (.slice q.a q.n q.c)) ((k + 1) * 3 + 1) (.string ⟨#[]⟩)) ((k + 1) * 3 + 2) (.int .i64 q.k)
            rw [pfCells_set _ (k + 1) q (by rw [midL_len]; have := HEK.out.2.2.2; omega)] at hO11
            have hb11 := ((hb10.setCell (p := ⟨g8, (k + 1) * 3, none⟩) hBg (.slice q.a q.n q.c)).setCell (p := ⟨g8, (k + 1) * 3 + 1, none⟩) hBg (.string ⟨#[]⟩)).setCell (p := ⟨g8, (k + 1) * 3 + 2, none⟩) hBg (.int .i64 q.k)
            have hbox2 : Blk (((w10.setCell ⟨g8, (k + 1) * 3, none⟩ (.slice q.a q.n q.c)).setCell ⟨g8, (k + 1) * 3 + 1, none⟩ (.string ⟨#[]⟩)).setCell ⟨g8, (k + 1) * 3 + 2, none⟩ (.int .i64 q.k)) gX 29 #[.slice e.a e.n e.c, .string ⟨#[]⟩, .int .i64 e.k] :=
              (Below.heap_setCell _ _ _ _ hne.symm).trans ((Below.heap_setCell _ _ _ _ hne.symm).trans ((Below.heap_setCell _ _ _ _ hne.symm).trans hbox))
            have HX := Lib.hid (And.intro hO11 (And.intro hb11 hbox2))
            clear hO11 hb11 hbox2 hblk hcell hO10 hb10 hbox
            go_upto_region 11 with fail
            obtain ⟨hO11, hb11, hbox⟩ := HX.out
            clear HX a0 a1 a2 b0 b1 b2 f10 hltg2
            generalize ((w10.setCell ⟨g8, (k + 1) * 3, none⟩ (.slice q.a q.n q.c)).setCell ⟨g8, (k + 1) * 3 + 1, none⟩ (.string ⟨#[]⟩)).setCell ⟨g8, (k + 1) * 3 + 2, none⟩ (.int .i64 q.k) = w11 at *
            obtain ⟨cur3, hblk, -, -, -, -⟩ := own_rowBlk hO11
            obtain ⟨gg, hgg, hltg2, hcell⟩ := own_some hO11 (by omega)
            injection hgg with hgg
            injection hgg with hgg
            subst hgg
            obtain ⟨b0, b1, b2⟩ := pfCells_at ((midL es' e (k + 1)).set (k + 1) q) k q (by rw [List.getElem?_set_ne (by omega)]; exact (midL_before es' e k (by have := HEK.out.2.2.2; omega)).trans HCP.out.2)
            replace b0 := hcell _ _ b0
            replace b1 := hcell _ _ b1
            replace b2 := hcell _ _ b2
            have f11 := hblk.free
            have rX := hbox.cell
            have hO12 := own_put (own_put (own_put hO11 (k * 3) (.slice e.a e.n e.c)) (k * 3 + 1) (.string ⟨#[]⟩)) (k * 3 + 2) (.int .i64 e.k)
            rw [pfCells_set _ k e (by rw [List.length_set, midL_len]; have := HEK.out.2.2.2; omega), midL_step _ _ _ _ HCP.out.2] at hO12
            have hb12 := ((hb11.setCell (p := ⟨g8, k * 3, none⟩) hBg (.slice e.a e.n e.c)).setCell (p := ⟨g8, k * 3 + 1, none⟩) hBg (.string ⟨#[]⟩)).setCell (p := ⟨g8, k * 3 + 2, none⟩) hBg (.int .i64 e.k)
            have G1 := Lib.hid hO12
            have G2 := Lib.hid hb12
            clear hO12 hb12 hO11 hb11 hblk hcell
            go_wp2_with fail
            go_roundw
            case rel => exact ⟨k, by omega, by go_num, G1.out, G3.out, G2.out⟩
            case measure => simp [intOf]
          · have hS := HS.out.push HEK.out.1 HD.out (.inr ⟨k, q, rfl, HCP.out.2, by have := HK.out; omega⟩)
            have G1 := Lib.hid hS
            have G2 := Lib.hid hO9
            clear hS hO9 rC
            go_wp2
            go_roundw
            case rel => exact ⟨j + 1, _, by omega, by go_num, G2.out, G1.out, hb9⟩
            case measure => simp [intOf]; omega
    · obtain rfl : j = n := by omega
      have hs := HS.out
      rw [List.take_of_length_le (by rw [hl.1]; omega)] at hs
      obtain ⟨A', c', rfl⟩ := own_slice hown
      have G1 := Lib.hid hs
      have G2 := Lib.hid hown
      have HL := Lib.hid hl.1
      clear hs hown
      go_wp2
      go_returns
      exact ⟨A', c', es', by rw [HL.out]; rfl, by rw [HL.out]; exact G2.out, G1.out, hbb⟩
theorem sorted_c (A : Option Addr) (n c : Nat) (es : List Pf) (z : ZP) (w : World) (hz : Zs w z) (hl : RP w A n es) (hv : ∀ e ∈ es, Vp e.is) (hn : n ≤ 1099511627776) :
    Calls Tryd.prog 31 #[.slice A n c] w (SortPost w es) := by
  by_cases h0 : n = 0
  · subst h0
    obtain rfl : es = [] := List.eq_nil_of_length_eq_zero hl.1
    exact sorted_none A c w
  · obtain ⟨g, o, rfl, _⟩ := hl.2.1 (by rw [pfCells_len, hl.1]; omega)
    exact sorted_some g o n c es z w hz hl hv hn
theorem SortOf.all {es es' : List Pf} {p : Pf → Prop} (h : SortOf es es') (hp : ∀ e ∈ es, p e) : ∀ e ∈ es', p e := fun e he => hp e (h.1.subset he)
theorem SortOf.rp {w w' : World} {A A' : Option Addr} {n c' b : Nat} {es es' : List Pf} (h : SortOf es es') (hr : RP w A n es) (hb : Below w.heap.size w w') (ho : w'.ownsRow b 29 3 (.slice A' es.length c') es.length (pfCells es')) : RP w' A' es.length es' :=
  ⟨h.1.length_eq, RC.of_own ho, fun e he => ((hr.2.2 e (h.1.subset he)).keep hb)⟩
end Go.Proofs.YtckfgdohpmllmaaDoor
