/-
  The walk of laws.FnWalkLeavesNoneOut.
-/
import Derived.Test.YtocckokbdacdfaaDoorInTwo
namespace Go.Proofs.YtocckokbdacdfaaDoor
open Go Go.RowKit
theorem none_between {b c : List UInt8} {i : Nat} (hc : c.length = b.length) (h0 : onB b i ≠ []) (h1 : onB b (i + 1) ≠ []) (h : cmpOf (onB b i) c = -1) : cmpOf c (onB b (i + 1)) ≠ -1 := by
  obtain ⟨p1, p2, p3, p4⟩ := on_len b i h0
  obtain ⟨-, q2, q3, q4⟩ := on_len b (i + 1) h1
  have k1 := key_len (b := onB b i) (by rw [p3]; exact p1)
  have k2 := key_len (b := onB b (i + 1)) (by rw [q3]; exact p1)
  have k3 := key_len (b := c) (by rw [hc]; exact p1)
  rw [p3, p4] at k1
  rw [q3, q4] at k2
  rw [hc] at k3
  generalize (if b.length = 4 then 32 * 340282366920938463463374607431768211456 + 281470681743360 else 128 * 340282366920938463463374607431768211456) = x at k1 k2 k3
  rcases cmpOf_cases (onB b i) c with ⟨_, h2⟩ | ⟨h2, _⟩ | ⟨h2, _⟩
  · rcases cmpOf_cases c (onB b (i + 1)) with ⟨_, h3⟩ | ⟨h3, _⟩ | ⟨h3, _⟩
    · omega
    · rw [h3]; decide
    · rw [h3]; decide
  · rw [h] at h2; exact absurd h2 (by decide)
  · rw [h] at h2; exact absurd h2 (by decide)
theorem on_prev {b : List UInt8} {i : Nat} (h : onB b (i + 1) ≠ []) : onB b i ≠ [] := by
  obtain ⟨p1, p2, p3, p4⟩ := on_len b (i + 1) h
  unfold onB
  rw [if_pos ⟨p1, by omega⟩]
  intro h
  have := congrArg List.length h
  rw [Lib.beBytes_length] at this
  simp at this
  rw [this] at p1
  simp [isLen] at p1
/-- A new address without a zone. -/
def FreshAd (n : Nat) (bs : List UInt8) (v : Value) (w : World) : Prop := ∃ A c, v = .agg #[.slice A n c, .string ⟨#[]⟩] ∧ RB w A n bs
theorem FreshAd.keep {n : Nat} {bs : List UInt8} {v : Value} {w w' : World} (h : FreshAd n bs v w) (hb : Below w.heap.size w w') : FreshAd n bs v w' := by
  obtain ⟨A, c, h1, h2⟩ := h
  exact ⟨A, c, h1, h2.keep hb⟩
theorem FreshAd.rb {n : Nat} {bs : List UInt8} {A : Option Addr} {c : Nat} {w : World} (h : FreshAd n bs (.agg #[.slice A n c, .string ⟨#[]⟩]) w) : RB w A n bs := by
  obtain ⟨A', c', h1, h2⟩ := h
  injection h1 with h1
  simp only [Array.mk.injEq, List.cons.injEq, Value.slice.injEq, and_true] at h1
  obtain ⟨rfl, -⟩ := h1
  exact h2
set_option maxHeartbeats 8000000 in
theorem leaves_walk (A : Option Addr) (n c : Nat) (b : List UInt8) (N : Int) (B : Option Addr) (m d : Nat) (os : List En) (z : ZP) (w : World) (hz : Zs w z) (hr : RB w A n b) (hA : A = none → n = 0 ∧ c = 0) (hn : n ≤ 140737488355328) (hos : RS w B m os) (hm : m ≤ 140737488355328) :
    Calls Tryd.prog 9 #[.slice A n c, .int .i64 N, .slice B m d] w (TrueW w) := by
  have hM := stepsN_lt N
  have hst := steps_c N
  generalize stepsN N = M at *
  have HS := Lib.hid hst
  clear hst
  have hbl := hr.1
  obtain ⟨i0, hi, hz0, hz1, hz2⟩ := info_parts infoAddr
  go_enter Tryd.func9, Tryd.ntmps9
  go_wp2_with fail
  refine (isAddress_c A n c w).mono ?_
  rintro e w0 ⟨rfl, hb0⟩
  by_cases hl : (n == 4 || n == 16) = true
  · rw [hl]
    have hlen : isLen b.length := by rw [hbl]; simpa [isLen] using hl
    go_wp2_with fail
    refine (plain_c A n c b w0 (hr.keep hb0) hA hn).mono ?_
    rintro e w1 ⟨A1, c1, rfl, hown1, hb1'⟩
    have hb1 := hb0.trans (hb1'.mono hb0.size)
    have hE1 : ownEnT w1 w.heap.size [⟨A1, n, c1, b⟩] := fun x hx => by
      simp at hx; subst hx; exact ⟨_, Or.inl rfl, own_mono hown1 hb0.size⟩
    have hx1 : Below w1.heap.size w1 (w1.alloc (.cells #[.slice A1 n c1, .string ⟨#[]⟩] 28)) := (Below.refl _ _).alloc (Nat.le_refl _) _
    have hrow : (w1.alloc (.cells #[.slice A1 n c1, .string ⟨#[]⟩] 28)).ownsRow w.heap.size 28 2 (.slice (some ⟨w1.heap.size, 0, none⟩) 1 1) 1 (enCells [⟨A1, n, c1, b⟩]) :=
      ⟨rfl, .inr ⟨w1.heap.size, 1, _, rfl, hb1.size, heap_alloc_new w1 _, Nat.le_refl _, by simp [maxLen], rfl, rfl⟩⟩
    have hE2 := hE1.below hx1
    have hb2 := hb1.trans (hx1.mono hb1.size)
    clear hown1 hb1' hb0 hE1 hx1 hb1
    go_wp2_with fail
    generalize w1.alloc (.cells #[.slice A1 n c1, .string ⟨#[]⟩] 28) = w2 at *
    refine (plain_c A n c b w2 (hr.keep hb2) hA hn).mono ?_
    rintro e w3 ⟨A3, c3, rfl, hown3, hb3'⟩
    have hr3 := RB.of_own hown3
    have hb3 := hb2.trans (hb3'.mono hb2.size)
    have hrow3 := own_below hrow hb3'
    have hE3 := hE2.below hb3'
    clear hown3 hb3' hrow hE2 hb2
    go_wp2_with fail
    refine (HS.out w3).mono ?_
    rintro e w4 ⟨rfl, hb4'⟩
    have hr4 := hr3.keep hb4'
    have hb4 := hb3.trans (hb4'.mono hb3.size)
    have hrow4 := own_below hrow3 hb4'
    have hE4 := hE3.below hb4'
    clear hr3 hb4' hb3 hrow3 hE3
    go_wp2_with fail
    refine (walkOnS_c A3 n c3 b M z w4 (hz.keep hb4) hr4 (by omega)).mono ?_
    rintro e w5 ⟨g5, c5, es, rfl, hc5, hlen5, hmap5, hin5, hb5'⟩
    have hb5 := hb4.trans (hb5'.mono hb4.size)
    have hrow5 := own_below hrow4 hb5'
    have hs5 := hb5.size
    have hE5 : ownEnT w5 0 ([⟨A1, n, c1, b⟩] ++ es) := fun x hx => by
      rcases List.mem_append.1 hx with hx | hx
      · obtain ⟨t, ht, ho⟩ := (hE4.below hb5') x hx
        exact ⟨t, ht, own_mono ho (Nat.zero_le _)⟩
      · obtain ⟨t, ht, ho⟩ := hin5 x hx
        exact ⟨t, ht, own_mono ho (Nat.zero_le _)⟩
    have hall : ∀ u ∈ enCells es, u.oneCell' = true := fun u hu => by
      simp only [enCells, En.cells, List.mem_flatMap, List.mem_cons, List.not_mem_nil, or_false] at hu
      obtain ⟨e, _, rfl | rfl⟩ := hu <;> rfl
    have hget : ∀ i e, ([⟨A1, n, c1, b⟩] ++ es)[i]? = some e → i < M + 1 → e.bs = onB b i := fun i e he hi => by
      cases i with
      | zero => simp at he; subst he; exact (on_zero hlen).symm
      | succ i => simp at he; exact walk_get hmap5 he (by omega)
    have HO := Lib.hid hrow5
    have HE := Lib.hid hE5
    have HC := Lib.hid hc5
    have HL := Lib.hid hlen5
    have HALL := Lib.hid hall
    have HR := Lib.hid (own_row_ge hrow5)
    have HG := Lib.hid hget
    clear hrow5 hE5 hc5 hmap5 hlen5 hin5 hall hget hrow4 hE4 hr4 hb5' hb4
    go_wp2_with (at_builtin; refine wpList_append_own _ rfl _ _ 23 rfl w.heap.size 28 i0 (.agg #[.slice none 0 0, .string ⟨#[]⟩]) 2 40 Tryd.underlying23 hi hz0 hz1 hz2 rfl (by decide) _ _ _ rfl HO.out ⟨g5, 0, none⟩ _ _ (enCells es) rfl (by rw [enCells_len, HL.out]) (fun j u hj => by rw [add_zero_off, Nat.zero_add]; exact HC.out j u hj) HALL.out (by unfold maxLen; omega) (by omega) hs5 ?_)
    intro v6 w6 hown6 hgrow _
    have hb6 : Below w.heap.size w w6 := hb5.grown hgrow hs5 HR.out
    have hE6 := HE.out.grown HO.out hgrow
    rw [← enCells_append2] at hown6
    generalize [(⟨A1, n, c1, b⟩ : En)] ++ es = ws at *
    obtain ⟨A6, c6, rfl⟩ := own_slice hown6
    have hwl : ws.length = 1 + M := by have := hown6.1; rw [enCells_len] at this; omega
    have hra6 := RA.of_ownT hown6 hwl hE6
    clear hown6 hE6 HO HE HC HALL HR hgrow HL hb5 hs5
    go_wp2_with fail
    refine (HS.out w6).mono ?_
    rintro e w7 ⟨rfl, hb7'⟩
    have hra := hra6.keep hb7'
    have hb7 := hb6.trans (hb7'.mono hb6.size)
    clear hra6 hb7' hb6
    have hos7 := hos.keep hb7
    have hz7 := hz.keep hb7
    have ecast : ((1 : Int) + (M : Int) != (M : Int) + 1) = false := by simp; omega
    go_wp2_with fail
    go_loopw [31] (fun i wr => ∃ k : Nat, k ≤ m ∧ i = .int .i64 k ∧ Below w7.heap.size w7 wr) (fun i _ => m - (intOf i).toNat)
    case atStart => exact ⟨0, Nat.zero_le _, rfl, Below.refl _ _⟩
    case round =>
      obtain ⟨k, hk, rfl, hbk⟩ := hrel
      by_cases hkm : k < m
      · obtain ⟨wo, hwo⟩ : ∃ wo : World, wo = wr := ⟨_, rfl⟩
        subst hwo
        obtain ⟨g, o, ec, hB, hg, hec, hc0, hbc, hnil, hcap⟩ := (hos7.keep hbk).at hkm
        subst hB
        have hrao := hra.keep hbk
        have hzo := hz7.keep hbk
        clear hec
        go_wp2_with fail
        go_loopw [10] (fun i wr => ∃ k : Nat, 1 ≤ k ∧ k ≤ M + 1 ∧ i = .int .i64 k ∧ Below wo.heap.size wo wr) (fun i _ => M + 1 - (intOf i).toNat)
        case atStart => exact ⟨1, Nat.le_refl _, by omega, rfl, Below.refl _ _⟩
        case round =>
          obtain ⟨j, hj1, hj, rfl, hbj⟩ := hrel
          by_cases hjM : j < M + 1
          · obtain ⟨g1, o1, ex, hA1, hg1, hex, hx0, hx1, hbx⟩ := (hrao.keep hbj).at (i := j - 1) (by omega)
            subst hA1
            obtain ⟨g2, o2, ey, hA2, hg2, hey, hy0, hy1, hby⟩ := (hrao.keep hbj).at (i := j) (by omega)
            injection hA2 with hA2
            injection hA2 with hA2 hA3
            subst hA2 hA3
            have h1 : ex.bs = onB b (j - 1) := HG.out _ _ hex (by omega)
            have h2 : ey.bs = onB b j := HG.out _ _ hey (by omega)
            have hly : ey.bs.length = ey.n := hby.1
            have hlc : ec.bs.length = ec.n := hbc.1
            clear hex hey
            by_cases hcn : ec.n = n
            · have q1 : (ec.n != n) = false := by simp [hcn]
              have q2 : ((ec.n : Int) != n) = false := by simp [hcn]
              by_cases hy : ey.n = 0
              · have q3 : (ey.n == 0) = true := by simpa using hy
                have q4 : ((ey.n : Int) == 0) = true := by simp [hy]
                go_wp2_with fail
                go_roundw
                case rel => exact ⟨j + 1, by omega, by omega, by go_num, hbj⟩
                case measure => simp [intOf]; omega
              · have q3 : (ey.n == 0) = false := by simpa using hy
                have q4 : ((ey.n : Int) == 0) = false := by simp; omega
                have hne : onB b (j - 1 + 1) ≠ [] := by
                  rw [show j - 1 + 1 = j by omega, ← h2]; intro h; rw [h] at hly; simp at hly; omega
                have hnb := none_between (b := b) (c := ec.bs) (i := j - 1) (by omega) (on_prev hne) hne
                rw [show j - 1 + 1 = j by omega, ← h1, ← h2] at hnb
                have HNB := Lib.hid hnb
                clear hnb hne h1 h2 hcn
                obtain ⟨q, hq⟩ : ∃ q, (cmpOf ex.bs ec.bs == -1) = q := ⟨_, rfl⟩
                have hqq : q = true → (cmpOf ec.bs ey.bs == -1) = false := fun h => by
                  subst h; simpa using HNB.out (by simpa using hq)
                have hdr : Below wr.heap.size wr wr.drew := ⟨rfl, rfl, rfl, Nat.le_refl _, fun _ _ => rfl⟩
                have i1 : IntKind.i64.wrap ((j : Int) - 1) = ((j - 1 : Nat) : Int) := by rw [IntKind.wrap_i64]; omega
                have i2 : (0 : Int) ≤ ((j - 1 : Nat) : Int) ∧ ((j - 1 : Nat) : Int) < 1 + (M : Int) := by omega
                have i3 : (0 : Int) ≤ (j : Int) ∧ (j : Int) < 1 + (M : Int) := by omega
                have HI := Lib.hid (And.intro i1 (And.intro i2 i3))
                have hzr := hzo.keep hbj
                have hbcr := hbc.keep hbj
                clear i1 i2 i3 HNB hly hlc
                go_wp2_with fail
                cases q
                · skip
                  refine region_pick (Below wr.heap.size wr) [(0, false), (1, false), (2, false), (3, false), (4, false), (5, false), (6, true), (7, false), (8, false), (9, false), (10, false), (12, false), (13, false), (14, false), (15, false), (11, true), (16, false), (17, false)] 18 (by kernel_rfl) (by kernel_rfl) (fun w w' h hb => h.trans (hb.mono h.size)) (hdr) ?_
                  simp only [pickOps, List.getElem?_cons_zero, List.getElem?_cons_succ]
                  repeat (first | (refine t_skip rfl ?_; (simp only [Act.put, List.setIfInBounds_toArray, List.set_cons_zero, List.set_cons_succ])) | (refine t_run ?_ rfl (fun w1 hw1 => ?_) ?_; rotate_left; (have r0 := HI.out.1; have r1 := HI.out.2.1; have r2 := HI.out.2.2; have r3 := (hw1.cell (p := ⟨g1, o1 + (j - 1) * 2, none⟩) hg1).trans hx0; have r4 := (hw1.cell (p := ⟨g1, o1 + (j - 1) * 2 + 1, none⟩) hg1).trans hx1; go_simp; try (with_reducible rfl)); (simp only [Act.put, List.setIfInBounds_toArray, List.set_cons_zero, List.set_cons_succ])))
                  refine t_fresh ?_ ?_ (fun v w' => FreshAd ec.n ec.bs v w') (by rfl) (fun w1 hw1 => ?_) (fun v w w' h hb => h.keep hb) (fun w1 hw1 => ?_) ?_
                  rotate_left 2
                  (go_simp; refine ⟨?_, ?_⟩ <;> with_reducible rfl)
                  (go_at_call 15; (with_reducible refine (plain_c ec.a ec.n ec.c ec.bs w1 (hbcr.keep hw1) hnil hcap).mono ?_); rintro e w2 ⟨A8, c8, rfl, hown8, hb8⟩; exact ⟨_, rfl, ⟨A8, c8, rfl, RB.of_own hown8⟩, hb8⟩)
                  rintro v8 ⟨-, -, A8, c8, rfl, -⟩
                  (simp only [Act.put, List.setIfInBounds_toArray, List.set_cons_zero, List.set_cons_succ])
                  repeat (first | (refine t_skip rfl ?_; (simp only [Act.put, List.setIfInBounds_toArray, List.set_cons_zero, List.set_cons_succ])) | (refine t_run ?_ rfl (fun w1 hw1 => ?_) ?_; rotate_left; (go_simp; try (with_reducible rfl)); (simp only [Act.put, List.setIfInBounds_toArray, List.set_cons_zero, List.set_cons_succ])) | (refine t_call ?_ ?_ ?_ rfl (fun w1 hw1 => ?_) (fun w1 hw1 => ?_) ?_; rotate_left 3; (go_simp; refine ⟨?_, ?_⟩ <;> with_reducible rfl); (first | (go_at_call 22; (with_reducible refine (weighed_c ex.a A8 ex.n ec.n ex.c c8 ex.bs ec.bs z w1 (hzr.keep hw1.1) (hbx.keep hw1.1) hw1.2.rb).mono ?_); rintro e w2 ⟨rfl, hb⟩; refine ⟨?_, hb⟩; with_reducible rfl) | (go_at_call 22; (refine (weighed_c ex.a A8 ex.n ec.n ex.c c8 ex.bs ec.bs z w1 (hzr.keep hw1.1) (hbx.keep hw1.1) hw1.2.rb).mono ?_); rintro e w2 ⟨rfl, hb⟩; refine ⟨?_, hb⟩; with_reducible rfl)); (simp only [Act.put, List.setIfInBounds_toArray, List.set_cons_zero, List.set_cons_succ])))
                  intro w8 ⟨hb8, _⟩
                  simp only [List.drop_succ_cons, List.drop_zero]
                  have hbj2 := hbj.trans (hb8.mono hbj.size)
                  go_wp2
                  go_roundw
                  case rel => exact ⟨j + 1, by omega, by omega, by go_num, hbj2⟩
                  case measure => simp [intOf]; omega
                · have hq2 := hqq rfl
                  refine region_pick (Below wr.heap.size wr) [(0, false), (1, false), (2, false), (3, false), (4, false), (5, false), (6, true), (7, false), (8, false), (9, false), (10, false), (12, false), (13, false), (14, false), (15, false), (11, true), (16, false), (17, false)] 18 (by kernel_rfl) (by kernel_rfl) (fun w w' h hb => h.trans (hb.mono h.size)) (hdr) ?_
                  simp only [pickOps, List.getElem?_cons_zero, List.getElem?_cons_succ]
                  repeat (first | (refine t_skip rfl ?_; (simp only [Act.put, List.setIfInBounds_toArray, List.set_cons_zero, List.set_cons_succ])) | (refine t_run ?_ rfl (fun w1 hw1 => ?_) ?_; rotate_left; (have r0 := HI.out.1; have r1 := HI.out.2.1; have r2 := HI.out.2.2; have r3 := (hw1.cell (p := ⟨g1, o1 + (j - 1) * 2, none⟩) hg1).trans hx0; have r4 := (hw1.cell (p := ⟨g1, o1 + (j - 1) * 2 + 1, none⟩) hg1).trans hx1; go_simp; try (with_reducible rfl)); (simp only [Act.put, List.setIfInBounds_toArray, List.set_cons_zero, List.set_cons_succ])))
                  refine t_fresh ?_ ?_ (fun v w' => FreshAd ec.n ec.bs v w') (by rfl) (fun w1 hw1 => ?_) (fun v w w' h hb => h.keep hb) (fun w1 hw1 => ?_) ?_
                  rotate_left 2
                  (go_simp; refine ⟨?_, ?_⟩ <;> with_reducible rfl)
                  (go_at_call 15; (with_reducible refine (plain_c ec.a ec.n ec.c ec.bs w1 (hbcr.keep hw1) hnil hcap).mono ?_); rintro e w2 ⟨A8, c8, rfl, hown8, hb8⟩; exact ⟨_, rfl, ⟨A8, c8, rfl, RB.of_own hown8⟩, hb8⟩)
                  rintro v8 ⟨-, -, A8, c8, rfl, -⟩
                  (simp only [Act.put, List.setIfInBounds_toArray, List.set_cons_zero, List.set_cons_succ])
                  repeat (first | (refine t_skip rfl ?_; (simp only [Act.put, List.setIfInBounds_toArray, List.set_cons_zero, List.set_cons_succ])) | (refine t_run ?_ rfl (fun w1 hw1 => ?_) ?_; rotate_left; (have r0 := HI.out.2.2; have r1 := (hw1.1.cell (p := ⟨g1, o1 + j * 2, none⟩) hg1).trans hy0; have r2 := (hw1.1.cell (p := ⟨g1, o1 + j * 2 + 1, none⟩) hg1).trans hy1; go_simp; try (with_reducible rfl)); (simp only [Act.put, List.setIfInBounds_toArray, List.set_cons_zero, List.set_cons_succ])) | (refine t_call ?_ ?_ ?_ rfl (fun w1 hw1 => ?_) (fun w1 hw1 => ?_) ?_; rotate_left 3; (have r0 := HI.out.2.2; have r1 := (hw1.1.cell (p := ⟨g1, o1 + j * 2, none⟩) hg1).trans hy0; have r2 := (hw1.1.cell (p := ⟨g1, o1 + j * 2 + 1, none⟩) hg1).trans hy1; go_simp; refine ⟨?_, ?_⟩ <;> with_reducible rfl); (first | (go_at_call 22; (with_reducible refine (weighed_c ex.a A8 ex.n ec.n ex.c c8 ex.bs ec.bs z w1 (hzr.keep hw1.1) (hbx.keep hw1.1) hw1.2.rb).mono ?_); rintro e w2 ⟨rfl, hb⟩; refine ⟨?_, hb⟩; with_reducible rfl) | (go_at_call 22; (refine (weighed_c ex.a A8 ex.n ec.n ex.c c8 ex.bs ec.bs z w1 (hzr.keep hw1.1) (hbx.keep hw1.1) hw1.2.rb).mono ?_); rintro e w2 ⟨rfl, hb⟩; refine ⟨?_, hb⟩; with_reducible rfl)); (simp only [Act.put, List.setIfInBounds_toArray, List.set_cons_zero, List.set_cons_succ])))
                  refine t_fresh ?_ ?_ (fun v w' => FreshAd ec.n ec.bs v w') (by rfl) (fun w1 hw1 => ?_) (fun v w w' h hb => h.keep hb) (fun w1 hw1 => ?_) ?_
                  rotate_left 2
                  (go_simp; refine ⟨?_, ?_⟩ <;> with_reducible rfl)
                  (go_at_call 15; (with_reducible refine (plain_c ec.a ec.n ec.c ec.bs w1 (hbcr.keep hw1.1) hnil hcap).mono ?_); rintro e w2 ⟨A9, c9, rfl, hown9, hb9⟩; exact ⟨_, rfl, ⟨A9, c9, rfl, RB.of_own hown9⟩, hb9⟩)
                  rintro v9 ⟨-, -, A9, c9, rfl, -⟩
                  (simp only [Act.put, List.setIfInBounds_toArray, List.set_cons_zero, List.set_cons_succ])
                  repeat (first | (refine t_skip rfl ?_; (simp only [Act.put, List.setIfInBounds_toArray, List.set_cons_zero, List.set_cons_succ])) | (refine t_run ?_ rfl (fun w1 hw1 => ?_) ?_; rotate_left; (go_simp; try (with_reducible rfl)); (simp only [Act.put, List.setIfInBounds_toArray, List.set_cons_zero, List.set_cons_succ])) | (refine t_call ?_ ?_ ?_ rfl (fun w1 hw1 => ?_) (fun w1 hw1 => ?_) ?_; rotate_left 3; (go_simp; refine ⟨?_, ?_⟩ <;> with_reducible rfl); (first | (go_at_call 22; (with_reducible refine (weighed_c A9 ey.a ec.n ey.n c9 ey.c ec.bs ey.bs z w1 (hzr.keep hw1.1.1) hw1.2.rb (hby.keep hw1.1.1)).mono ?_); rintro e w2 ⟨rfl, hb⟩; refine ⟨?_, hb⟩; with_reducible rfl) | (go_at_call 22; (refine (weighed_c A9 ey.a ec.n ey.n c9 ey.c ec.bs ey.bs z w1 (hzr.keep hw1.1.1) hw1.2.rb (hby.keep hw1.1.1)).mono ?_); rintro e w2 ⟨rfl, hb⟩; refine ⟨?_, hb⟩; with_reducible rfl)); (simp only [Act.put, List.setIfInBounds_toArray, List.set_cons_zero, List.set_cons_succ])))
                  intro w8 ⟨⟨hb8, _⟩, _⟩
                  simp only [List.drop_succ_cons, List.drop_zero]
                  have hbj2 := hbj.trans (hb8.mono hbj.size)
                  go_wp2
                  go_roundw
                  case rel => exact ⟨j + 1, by omega, by omega, by go_num, hbj2⟩
                  case measure => simp [intOf]; omega
            · have q1 : (ec.n != n) = true := by simpa using hcn
              have q2 : ((ec.n : Int) != n) = true := by simp; omega
              go_wp2_with fail
              go_roundw
              case rel => exact ⟨j + 1, by omega, by omega, by go_num, hbj⟩
              case measure => simp [intOf]; omega
          · have hjM' : j = M + 1 := by omega
            have hbw := hbk.trans (hbj.mono hbk.size)
            go_wp2
            go_roundw
            case rel => exact ⟨k + 1, by omega, by go_num, hbw⟩
            case measure => simp [intOf]; omega
      · have hkm' : k = m := by omega
        go_wp2
        go_returns
        exact ⟨rfl, hb7.trans (hbk.mono hb7.size)⟩
  · rw [show (n == 4 || n == 16) = false by simpa using hl]
    go_wp2_with fail
    go_returns
    exact ⟨rfl, hb0⟩
end Go.Proofs.YtocckokbdacdfaaDoor
