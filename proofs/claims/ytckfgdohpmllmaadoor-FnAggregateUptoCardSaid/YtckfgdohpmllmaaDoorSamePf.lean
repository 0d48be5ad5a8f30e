/-
  Contracts of laws.samePrefix, laws.samePrefixes, impl.MaskedEach.
-/
import Derived.Test.YtckfgdohpmllmaaDoorSame
import Derived.Test.YtckfgdohpmllmaaDoorSort
import Derived.Test.YtckfgdohpmllmaaDoorCuts
namespace Go.Proofs.YtckfgdohpmllmaaDoor
open Go Go.RowKit
set_option maxRecDepth 100000 in
theorem samePf_c (A B : Option Addr) (n m c d : Nat) (bs cs : List UInt8) (k j : Nat) (w : World) (h1 : RB w A n bs) (h2 : RB w B m cs) (hn : n ≤ 9223372036854775807) :
    Calls Tryd.prog 34 #[.agg #[.slice A n c, .string ⟨#[]⟩, .int .i64 k], .agg #[.slice B m d, .string ⟨#[]⟩, .int .i64 j]] w fun e w' => e = .returned (.bool (decide ((bs, k) = (cs, j)))) ∧ Below w.heap.size w w' := by
  have hbx := boxes2 (x0 := #[.slice A n c, .string ⟨#[]⟩, .int .i64 k]) (x1 := #[.slice B m d, .string ⟨#[]⟩, .int .i64 j]) w 29 29
  go_enter Tryd.func34, Tryd.ntmps34
  go_wp2_with fail
  refine (sameAddr_c A B n m c d bs cs _ (h1.keep hbx.below) (h2.keep hbx.below) hn).mono ?_
  rintro e w1 ⟨rfl, hb⟩
  have hw1 := hbx.keep hb
  have r0 := hw1.b0
  have r1 := hw1.b1
  have bb := hw1.below
  clear hbx hb hw1
  by_cases hbc : bs = cs
  · rw [show decide (bs = cs) = true by simpa using hbc]
    by_cases hkj : k = j
    · subst hkj
      go_wp2
      go_returns
      exact ⟨by simp [hbc], bb⟩
    · have q1 : ((k : Int) == j) = false := by simp; omega
      have q2 : (k == j) = false := by simpa using hkj
      go_wp2
      go_returns
      exact ⟨by simp [hkj], bb⟩
  · rw [show decide (bs = cs) = false by simpa using hbc]
    go_wp2
    go_returns
    exact ⟨by simp [hbc], bb⟩
set_option maxRecDepth 100000 in
set_option maxHeartbeats 8000000 in
/-- Lists of the same prefixes are the same. -/
theorem samePfs_c (A B : Option Addr) (n c d : Nat) (es fs : List Pf) (w : World) (h1 : RP w A n es) (h2 : RP w B n fs) (hv : ∀ e ∈ es, Vp e.is) (he : es.map Pf.is = fs.map Pf.is) (hn : n ≤ 9223372036854775807) :
    Calls Tryd.prog 32 #[.slice A n c, .slice B n d] w fun e w' => e = .returned (.bool true) ∧ Below w.heap.size w w' := by
  have HE := Lib.hid he
  clear he
  go_enter Tryd.func32, Tryd.ntmps32
  go_wp2_with fail
  go_loopw [13] (fun i wr => ∃ (j : Nat), j ≤ n ∧ i = .int .i64 j ∧ Below w.heap.size w wr) (fun i _ => n - (intOf i).toNat)
  case atStart => exact ⟨0, Nat.zero_le _, rfl, Below.refl _ _⟩
  case round =>
    obtain ⟨j, hj, rfl, hbb⟩ := hrel
    by_cases hlt : j < n
    · obtain ⟨g, o, e, hA, hg, hek, hc0, hc1, hc2, hbe⟩ := (h1.keep hbb).at hlt
      subst hA
      obtain ⟨g', o', f, hB, hg', hfk, hd0, hd1, hd2, hbf⟩ := (h2.keep hbb).at hlt
      subst hB
      have hef : e.is = f.is := by
        have h3 : (es.map Pf.is)[j]? = some e.is := by rw [List.getElem?_map, hek]; rfl
        rw [HE.out, List.getElem?_map, hfk] at h3
        injection h3 with h3
        exact h3.symm
      have hve := hv e (List.mem_of_getElem? hek)
      have hen : e.n ≤ 9223372036854775807 := by have h5 := hve.1; rw [← hbe.1]; unfold isLen at h5; simp only [Pf.is] at h5; omega
      have k1 := fun w' (h : Below wr.heap.size wr w') => samePf_c e.a f.a e.n f.n e.c f.c e.bs f.bs e.k f.k w' (hbe.keep h) (hbf.keep h) hen
      have h4 : decide ((e.bs, e.k) = (f.bs, f.k)) = true := by simpa [Pf.is] using hef
      simp only [h4] at k1
      have rE : ∀ w', Below wr.heap.size wr w' → w'.cell? ⟨g, o + j * 3, none⟩ = some (.slice e.a e.n e.c) ∧ w'.cell? ⟨g, o + j * 3 + 1, none⟩ = some (.string ⟨#[]⟩) ∧ w'.cell? ⟨g, o + j * 3 + 2, none⟩ = some (.int .i64 e.k) := fun w' h =>
        ⟨(h.cell (p := ⟨g, o + j * 3, none⟩) hg).trans hc0, (h.cell (p := ⟨g, o + j * 3 + 1, none⟩) hg).trans hc1, (h.cell (p := ⟨g, o + j * 3 + 2, none⟩) hg).trans hc2⟩
      have rF : ∀ w', Below wr.heap.size wr w' → w'.cell? ⟨g', o' + j * 3, none⟩ = some (.slice f.a f.n f.c) ∧ w'.cell? ⟨g', o' + j * 3 + 1, none⟩ = some (.string ⟨#[]⟩) ∧ w'.cell? ⟨g', o' + j * 3 + 2, none⟩ = some (.int .i64 f.k) := fun w' h =>
        ⟨(h.cell (p := ⟨g', o' + j * 3, none⟩) hg').trans hd0, (h.cell (p := ⟨g', o' + j * 3 + 1, none⟩) hg').trans hd1, (h.cell (p := ⟨g', o' + j * 3 + 2, none⟩) hg').trans hd2⟩
      have q1 : (0 : Int) ≤ j ∧ (j : Int) < n := by omega
      have HQ := Lib.hid q1
      have hdr : Below wr.heap.size wr wr.drew := ⟨rfl, rfl, rfl, Nat.le_refl _, fun _ _ => rfl⟩
      clear hek hfk hef h4 hc0 hc1 hc2 hd0 hd1 hd2 q1
      go_wp2_with fail
      refine region_pick (Below wr.heap.size wr) [(0, false, none), (1, false, none), (2, false, none), (3, false, none), (4, false, none), (5, false, none), (6, false, none), (7, false, none), (8, false, none), (9, false, none)] 10 (by kernel_rfl) (by kernel_rfl) (fun w w' h hb => h.trans (hb.mono h.size)) (hdr) ?_
      simp only [pickOps, List.getElem?_cons_zero, List.getElem?_cons_succ]
      repeat (first | (refine t_skip rfl ?_; (simp only [Act.put, List.setIfInBounds_toArray, List.set_cons_zero, List.set_cons_succ])) | (refine t_run ?_ rfl (fun w1 hw1 => ?_) ?_; rotate_left; (have r0 := (rE w1 hw1).1; have r1 := (rE w1 hw1).2.1; have r2 := (rE w1 hw1).2.2; have r3 := (rF w1 hw1).1; have r4 := (rF w1 hw1).2.1; have r5 := (rF w1 hw1).2.2; have r6 := HQ.out; go_simp; try (with_reducible rfl)); (simp only [Act.put, List.setIfInBounds_toArray, List.set_cons_zero, List.set_cons_succ])) | (refine t_call ?_ ?_ ?_ rfl (fun w1 hw1 => ?_) (fun w1 hw1 => ?_) ?_; rotate_left 3; (have r0 := (rE w1 hw1).1; have r1 := (rE w1 hw1).2.1; have r2 := (rE w1 hw1).2.2; have r3 := (rF w1 hw1).1; have r4 := (rF w1 hw1).2.1; have r5 := (rF w1 hw1).2.2; have r6 := HQ.out; go_simp; refine ⟨?_, ?_⟩ <;> with_reducible rfl); (first | (go_at_call 34; (with_reducible refine (k1 w1 hw1).mono ?_); rintro e w2 ⟨rfl, hb⟩; refine ⟨?_, hb⟩; with_reducible rfl) | (go_at_call 34; (refine (k1 w1 hw1).mono ?_); rintro e w2 ⟨rfl, hb⟩; refine ⟨?_, hb⟩; with_reducible rfl)); (simp only [Act.put, List.setIfInBounds_toArray, List.set_cons_zero, List.set_cons_succ])))
      intro w9 hw9
      simp only [List.drop_succ_cons, List.drop_zero]
      have hb9 := hbb.trans (hw9.mono hbb.size)
      clear rE rF k1 hdr
      go_wp2
      go_roundw
      case rel => exact ⟨j + 1, by omega, by go_num, hb9⟩
      case measure => simp [intOf]; omega
    · obtain rfl : j = n := by omega
      go_wp2
      go_returns
      exact ⟨rfl, hbb⟩
/-- A prefix, masked. -/
def maskIs (p : List UInt8 × Nat) : List UInt8 × Nat := (wb p.1 p.2 false, p.2)
def MaskPost (w : World) (es : List Pf) (e : Ending) (w' : World) : Prop :=
  ∃ A' c' es', e = .returned (.slice A' es.length c') ∧ w'.ownsRow w.heap.size 29 3 (.slice A' es.length c') es.length (pfCells es') ∧ es'.map Pf.is = (es.map Pf.is).map maskIs ∧ ownPT w' w.heap.size es' ∧ Below w.heap.size w w'
theorem mask_rp {w : World} {B b2 : Nat} {A : Option Addr} {n c : Nat} {es : List Pf} (h : w.ownsRow b2 29 3 (.slice A n c) n (pfCells es)) (hl : es.length = n) (hi : ownPT w B es) : RP w A n es :=
  ⟨hl, RC.of_own h, fun e he => by obtain ⟨t, -, h⟩ := hi e he; exact RB.of_own h⟩
theorem tag_pf : ∀ t, byteTag t → t ≠ 29 := fun _ ht => ht.ne (by decide) (by decide) (by decide)
set_option maxRecDepth 100000 in
set_option maxHeartbeats 8000000 in
theorem masked_each (A : Option Addr) (n c : Nat) (es : List Pf) (z : ZP) (w : World) (hz : Zs w z) (hl : RP w A n es) (hv : ∀ e ∈ es, Vp e.is) (hn : n ≤ 1099511627776) :
    Calls Tryd.prog 41 #[.slice A n c] w (MaskPost w es) := by
  obtain ⟨i0, hi, hz0, hz1, hz2⟩ := info_parts infoPf
  go_enter Tryd.func41, Tryd.ntmps41
  go_wp2_with fail
  go_loopw [3, 8] (fun v i wr => ∃ (j : Nat) (es' : List Pf), j ≤ n ∧ i = .int .i64 j ∧ wr.ownsRow w.heap.size 29 3 v j (pfCells es') ∧ es'.map Pf.is = ((es.map Pf.is).take j).map maskIs ∧ ownPT wr w.heap.size es' ∧ Below w.heap.size w wr) (fun _ i _ => n - (intOf i).toNat)
  case atStart => exact ⟨0, [], Nat.zero_le _, rfl, World.ownsRow_nil _ _ _ _, rfl, fun e he => (by simp at he), Below.refl _ _⟩
  case round =>
    obtain ⟨j, es', hj, rfl, hown, hmap, hin, hbb⟩ := hrel
    by_cases hlt : j < n
    · obtain ⟨g, o, e, hA, hg, hek, hc0, hc1, hc2, hbe⟩ := (hl.keep hbb).at hlt
      subst hA
      have hve := hv e (List.mem_of_getElem? hek)
      have htk : ((es.map Pf.is).take (j + 1)).map maskIs = ((es.map Pf.is).take j).map maskIs ++ [(wb e.bs e.k false, e.k)] := by
        rw [List.take_add_one, List.getElem?_map, hek]; simp [maskIs, Pf.is]
      have HT := Lib.hid (And.intro htk hmap)
      have HO := Lib.hid (And.intro hown hin)
      have hxa : Below wr.heap.size wr (wr.alloc (.cells #[.slice e.a e.n e.c, .string ⟨#[]⟩, .int .i64 e.k] 29)) := (Below.refl _ _).alloc (Nat.le_refl _) _
      have HX := Lib.hid (And.intro hxa (And.intro (hbb.trans (hxa.mono hbb.size)) (hbe.keep hxa)))
      clear htk hmap hown hin hek hxa hbe
      go_wp2_with fail
      obtain ⟨hxa, hb5, hbe5⟩ := HX.out
      clear HX hc0 hc1 hc2
      generalize wr.alloc (.cells #[.slice e.a e.n e.c, .string ⟨#[]⟩, .int .i64 e.k] 29) = w5 at *
      refine (prefix_c e.a e.n e.c e.bs e.k z w5 (hz.keep hb5) hbe5 hve.1 hve.2).mono ?_
      rintro e1 w6 ⟨rfl, hb6⟩
      have hb56 := hb5.trans (hb6.mono hb5.size)
      go_wp2_with fail
      refine (masked_c e.bs e.k z w6 (hz.keep hb56) hve.1 hve.2).mono ?_
      rintro e1 w7 ⟨rfl, hb7⟩
      have hb57 := hb56.trans (hb7.mono hb56.size)
      have hml : (wb e.bs e.k false).length = e.bs.length := wb_len _ _ _
      have hk128 : e.k ≤ 128 := by have h5 := hve.1; have h6 := hve.2; unfold isLen at h5; simp only [Pf.is] at h5 h6; omega
      go_wp2_with fail
      refine (fromPrefix_c (wb e.bs e.k false) e.k z w7 (hz.keep hb57) (by rw [hml]; exact hve.1) hk128).mono ?_
      rintro e1 w8 ⟨v8, rfl, ⟨A8, c8, t8, rfl, ht8, hown8⟩, hb8⟩
      have hb18 := hxa.trans ((hb6.trans ((hb7.trans (hb8.mono hb7.size)).mono hb6.size)).mono hxa.size)
      have hb58 := hb57.trans (hb8.mono hb57.size)
      have hO8 := own_below HO.out.1 hb18
      have hI8 : ownPT w8 w.heap.size (es' ++ [⟨A8, (wb e.bs e.k false).length, c8, wb e.bs e.k false, e.k⟩]) := fun y hy => by
        rcases List.mem_append.1 hy with hy | hy
        · exact (HO.out.2.below hb18) y hy
        · simp at hy; subst hy; exact ⟨t8, ht8, own_mono hown8 hb57.size⟩
      have hsz8 := hb58.size
      have HO8 := Lib.hid hO8
      have HI8 := Lib.hid hI8
      clear hO8 hI8 hown8 hb6 hb7 hb8 hb18 hb56 hb57 hbe5 hml
      generalize wb e.bs e.k false = mb at *
      go_wp2_with ((at_builtin; refine append1 rfl _ _ 23 rfl (w.heap.size) 29 i0 (.agg #[.slice none 0 0, .string ⟨#[]⟩, .int .i64 0]) 3 48 Tryd.underlying23 hi hz0 hz1 hz2 rfl (by decide) _ _ _ rfl (HO8.out) _ _ [.slice A8 mb.length c8, .string ⟨#[]⟩, .int .i64 e.k] rfl (by simp) rfl rfl (by unfold maxLen; omega) (by omega) (by first | omega | (simp; omega)) ?_))
      intro v9 w9 hown9 hgrow
      have hxb : Below w8.heap.size w8 (w8.alloc (.cells #[.slice A8 mb.length c8, .string ⟨#[]⟩, .int .i64 e.k] 29)) := (Below.refl _ _).alloc (Nat.le_refl _) _
      have hE9 := (HI8.out.below hxb).grown (own_below HO8.out hxb) tag_pf hgrow
      have hb9 : Below w.heap.size w w9 := (hb58.trans (hxb.mono hb58.size)).grown hgrow (Nat.le_trans hb58.size hxb.size) (own_row_ge HO8.out)
      have he9 : w9.ownsRow w.heap.size 29 3 v9 (j + 1) (pfCells (es' ++ [(⟨A8, mb.length, c8, mb, e.k⟩ : Pf)])) := by rw [pfCells_append]; exact hown9
      have hm9 : (es' ++ [(⟨A8, mb.length, c8, mb, e.k⟩ : Pf)]).map Pf.is = ((es.map Pf.is).take (j + 1)).map maskIs := by rw [HT.out.1, List.map_append, HT.out.2]; rfl
      generalize es' ++ [(⟨A8, mb.length, c8, mb, e.k⟩ : Pf)] = es3 at *
      have G1 := Lib.hid he9
      have G2 := Lib.hid hE9
      have G3 := Lib.hid hm9
      clear he9 hE9 hm9 hown9 hgrow hxb HO8 HI8
      go_wp2
      go_roundw
      case rel => exact ⟨j + 1, es3, by omega, by go_num, G1.out, G3.out, G2.out, hb9⟩
      case measure => simp [intOf]; omega
    · obtain rfl : j = n := by omega
      rw [List.take_of_length_le (by rw [List.length_map, hl.1]; omega)] at hmap
      obtain ⟨A', c', rfl⟩ := own_slice hown
      have G1 := Lib.hid hown
      have G2 := Lib.hid hin
      have G3 := Lib.hid hmap
      have HL := Lib.hid hl.1
      clear hown hin hmap
      go_wp2
      go_returns
      exact ⟨A', c', es', by rw [HL.out]; rfl, by rw [HL.out]; exact G1.out, G3.out, G2.out, hbb⟩
end Go.Proofs.YtckfgdohpmllmaaDoor
