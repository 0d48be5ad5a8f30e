/-
  The walk of laws.FnGateBetween.
-/
import Derived.Test.YtocckokbdacdfaaDoorGates
import Derived.Test.YtocckokbdacdfaaDoorAppOld
import Derived.Test.YtocckokbdacdfaaDoorCounted
namespace Go.Proofs.YtocckokbdacdfaaDoor
open Go Go.RowKit
theorem key_inj {a b : List UInt8} (ha : isLen a.length) (hb : isLen b.length) (h : keyOf a = keyOf b) : a = b := by
  rw [key_len ha, key_len hb] at h
  have h1 := beNat_lt a
  have h2 := beNat_lt b
  have hl : a.length = b.length := by
    unfold isLen at ha hb
    rcases ha with ha | ha <;> rcases hb with hb | hb <;> rw [ha] at h h1 <;> rw [hb] at h h2 <;> simp at h h1 h2 <;> omega
  rw [hl] at h
  exact beNat_inj b.length a b hl rfl (by omega)
theorem cmpG_cases (a b : List UInt8) (p q : Int) : (cmpG a p b q ≤ 0 ↔ keyOf a < keyOf b ∨ keyOf a = keyOf b ∧ p ≤ q) ∧ (cmpG a p b q = -1 ↔ keyOf a < keyOf b ∨ keyOf a = keyOf b ∧ p < q) ∧ cmpG a p b q ≤ 1 := by
  unfold cmpG
  rcases cmpOf_cases a b with ⟨h1, h2⟩ | ⟨h1, h2⟩ | ⟨h1, h2⟩
  · rw [h1]; simp; omega
  · rw [h1, if_pos rfl]
    unfold cmpI
    split
    · simp; omega
    · split
      · simp; omega
      · simp; omega
  · rw [h1]; simp; omega
theorem between_iff {b r : List UInt8} (hb : isLen b.length) (hr : isLen r.length) (p q x : Int) : (cmpG b p r x ≤ 0 ∧ cmpG r x b q ≤ 0) ↔ (r = b ∧ p ≤ x ∧ x ≤ q) := by
  rw [(cmpG_cases b r p x).1, (cmpG_cases r b x q).1]
  constructor
  · rintro ⟨h1, h2⟩
    have he : keyOf r = keyOf b := by omega
    exact ⟨key_inj hr hb he, by omega, by omega⟩
  · rintro ⟨rfl, h1, h2⟩
    exact ⟨.inr ⟨rfl, h1⟩, .inr ⟨rfl, h2⟩⟩
theorem own_litG (w : World) (cs : Array Value) (t : TypeId) (size n B : Nat) (hB : B ≤ w.heap.size) (hs : cs.size = n * size) (hn : n ≤ 1000) : (w.alloc (.cells cs t)).ownsRow B t size (.slice (some ⟨w.heap.size, 0, none⟩) n n) n cs.toList :=
  ⟨by simp [hs], .inr ⟨w.heap.size, n, cs, rfl, hB, heap_alloc_new w _, Nat.le_refl _, by unfold maxLen; omega, hs, by rw [← hs, ← Array.length_toList, List.take_length]⟩⟩
/-- A row that a literal has laid, as a lasting fact. -/
def LitG (B : Nat) (t : TypeId) (size n : Nat) (cs : List Value) (v : Value) (w : World) : Prop := ∃ g, v = .slice (some ⟨g, 0, none⟩) n n ∧ w.ownsRow B t size (.slice (some ⟨g, 0, none⟩) n n) n cs
theorem LitG.keep {B : Nat} {t : TypeId} {size n : Nat} {cs : List Value} {v : Value} {w w' : World} (h : LitG B t size n cs v w) (hb : Below w.heap.size w w') : LitG B t size n cs v w' := by
  obtain ⟨g, h1, h2⟩ := h
  exact ⟨g, h1, own_below h2 hb⟩
theorem GatesT.lt {B n : Nat} {v : Value} {w : World} (h : GatesT B n v w) : ∀ g, v.ownBlock = some g → B ≤ g ∧ g < w.heap.size := by
  obtain ⟨A, k, c, es, rfl, h2, -⟩ := h
  exact fun g hg => h2.lt g hg
theorem GatesT.mono {B B' n : Nat} {v : Value} {w : World} (h : GatesT B n v w) (hB : B' ≤ B) : GatesT B' n v w := by
  obtain ⟨A, k, c, es, h1, h2, h3, h4, h5, h6⟩ := h
  exact ⟨A, k, c, es, h1, own_mono h2 hB, h3, h4, h5, fun e he => own_mono (h6 e he) hB⟩
/-- The gates, and the two more. -/
def MoreT (n : Nat) (v : Value) (w : World) : Prop := ∃ A k c es, v = .slice A k c ∧ RG w A k es ∧ k ≤ n ∧ ∀ e ∈ es, isLen e.bs.length ∧ e.p < 65536
theorem MoreT.keep {n : Nat} {v : Value} {w w' : World} (h : MoreT n v w) (hb : Below w.heap.size w w') : MoreT n v w' := by
  obtain ⟨A, k, c, es, h1, h2, h3⟩ := h
  exact ⟨A, k, c, es, h1, h2.keep hb, h3⟩
theorem boxPort (w : World) (a b c : Value) : Blk (w.alloc (.cells #[a, b, c] 39)) w.heap.size 39 #[a, b, c] := heap_alloc_new _ _
set_option maxRecDepth 100000 in
set_option maxHeartbeats 16000000 in
theorem betw_walk (A : Option Addr) (n c : Nat) (bs : List UInt8) (low high : Int) (F : Option Addr) (fn fc : Nat) (es0 : List En) (X : Option Addr) (xn xc : Nat) (xs : List Int) (z : ZP) (w : World) (hz : Zs w z)
    (hr : RB w A n bs) (hA : A = none → n = 0 ∧ c = 0) (hn : n ≤ 140737488355328) (hf : RS w F fn es0) (hfn : fn ≤ 1048576) (hx : RI w X xn xs) :
    Calls Tryd.prog 5 #[.slice A n c, .int .i64 low, .int .i64 high, .slice F fn fc, .slice X xn xc] w (TrueW w) := by
  obtain ⟨i0, hi, hz0, hz1, hz2⟩ := info_parts infoPort
  go_enter Tryd.func5, Tryd.ntmps5
  go_wp2_with fail
  refine (isAddress_c A n c w).mono ?_
  rintro e0 w0 ⟨rfl, hb0⟩
  by_cases hla : (n == 4 || n == 16) = true
  · rw [hla]
    have hisl : isLen bs.length := by rw [hr.1]; simpa [isLen] using hla
    have hn16 : n ≤ 16 := by have := hr.1; unfold isLen at hisl; omega
    clear hla
    have hr0 := hr.keep hb0
    go_wp2_with fail
    refine (plain_c A n c bs w0 hr0 hA hn).mono ?_
    rintro e1 w1 ⟨A1, c1, rfl, hown1, hb1⟩
    have hb01 := hb0.trans (hb1.mono hb0.size)
    have hp1 := portN_and low
    have hp2 := portN_lt low
    have hp3 := wrap_u16 _ hp2
    obtain ⟨P, hP⟩ : ∃ P, P = portN low := ⟨_, rfl⟩
    rw [← hP] at hp1 hp2 hp3
    have hxa : Below w1.heap.size w1 (w1.alloc (.cells #[.slice A1 n c1, .string ⟨#[]⟩, .int .u16 P] 39)) := (Below.refl _ _).alloc (Nat.le_refl _) _
    have hbox := boxPort w1 (.slice A1 n c1) (.string ⟨#[]⟩) (.int .u16 P)
    obtain ⟨gP, hgP⟩ : ∃ gP, gP = w1.heap.size := ⟨_, rfl⟩
    rw [← hgP] at hbox
    have HX := Lib.hid (And.intro hgP (And.intro hbox (And.intro (hb01.trans (hxa.mono hb01.size)) (own_below hown1 hxa))))
    clear hgP hbox hxa hown1 hb1 hb01 hr0 hb0 hP
    go_wp2_with fail
    obtain ⟨hgP, hboxP, hb2, hownP⟩ := HX.out
    rw [← hgP]
    clear HX hgP
    generalize w1.alloc (.cells #[.slice A1 n c1, .string ⟨#[]⟩, .int .u16 P] 39) = w2 at *
    clear hp1 hp3
    refine (plain_c A n c bs w2 (hr.keep hb2) hA hn).mono ?_
    rintro e1 w3 ⟨A2, c2, rfl, hown2, hb3⟩
    have hp1 := portN_and high
    have hq2 := portN_lt high
    have hp3 := wrap_u16 _ hq2
    obtain ⟨Q, hQ⟩ : ∃ Q, Q = portN high := ⟨_, rfl⟩
    rw [← hQ] at hp1 hq2 hp3
    have hxa : Below w3.heap.size w3 (w3.alloc (.cells #[.slice A2 n c2, .string ⟨#[]⟩, .int .u16 Q] 39)) := (Below.refl _ _).alloc (Nat.le_refl _) _
    have hbox := boxPort w3 (.slice A2 n c2) (.string ⟨#[]⟩) (.int .u16 Q)
    obtain ⟨gQ, hgQ⟩ : ∃ gQ, gQ = w3.heap.size := ⟨_, rfl⟩
    rw [← hgQ] at hbox
    have hb23 := hb3.trans (hxa.mono hb3.size)
    have HX := Lib.hid (And.intro hgQ (And.intro hbox (And.intro (hb2.trans (hb23.mono hb2.size)) (And.intro (RB.of_own (own_below hown2 hxa)) (And.intro (hboxP.below hb23) ((RB.of_own hownP).keep hb23))))))
    clear hgQ hbox hxa hown2 hb3 hb2 hb23 hboxP hownP hQ
    go_upto_region 5 with fail
    obtain ⟨hgQ, hboxQ, hb4, hrQ, hboxP, hrP⟩ := HX.out
    rw [← hgQ]
    clear HX hgQ hp1 hp3
    generalize w3.alloc (.cells #[.slice A2 n c2, .string ⟨#[]⟩, .int .u16 Q] 39) = w4 at *
    have hdr : Below w4.heap.size w4 w4.drew := ⟨rfl, rfl, rfl, Nat.le_refl _, fun _ _ => rfl⟩
    have lP := hboxP.lt
    have lQ := hboxQ.lt
    have rP : ∀ w', Below w4.heap.size w4 w' → ∀ i, w'.cell? ⟨gP, i, none⟩ = #[Value.slice A1 n c1, .string ⟨#[]⟩, .int .u16 P][i]? := fun w' h i => (h.cell (p := ⟨gP, i, none⟩) lP).trans (hboxP.cell i)
    have rQ : ∀ w', Below w4.heap.size w4 w' → ∀ i, w'.cell? ⟨gQ, i, none⟩ = #[Value.slice A2 n c2, .string ⟨#[]⟩, .int .u16 Q][i]? := fun w' h i => (h.cell (p := ⟨gQ, i, none⟩) lQ).trans (hboxQ.cell i)
    have hf4 := hf.keep hb4
    have hx4 := hx.keep hb4
    refine region_pick (Below w4.heap.size w4) [(0, false, none), (1, false, none), (3, false, none), (4, false, none), (8, false, none), (2, true, some 5), (6, true, none), (7, false, none)] 9 (by kernel_rfl) (by kernel_rfl) (fun w w' h hb => h.trans (hb.mono h.size)) (hdr) ?_
    simp only [pickOps, List.getElem?_cons_zero, List.getElem?_cons_succ]
    repeat (first | (refine t_skip rfl ?_; (simp only [Act.put, List.setIfInBounds_toArray, List.set_cons_zero, List.set_cons_succ])) | (refine t_run ?_ rfl (fun w1 hw1 => ?_) ?_; rotate_left; (have r0 := rP w1 hw1; have r1 := rQ w1 hw1; go_simp; try (with_reducible rfl)); (simp only [Act.put, List.setIfInBounds_toArray, List.set_cons_zero, List.set_cons_succ])))
    refine t_pair (fun v w' => GatesT w4.heap.size fn v w') (fun v w' => LitG w4.heap.size 39 3 2 [.slice A1 n c1, .string ⟨#[]⟩, .int .u16 P, .slice A2 n c2, .string ⟨#[]⟩, .int .u16 Q] v w') (fun u v w' => GatesT w4.heap.size fn u w' ∧ LitG w4.heap.size 39 3 2 [.slice A1 n c1, .string ⟨#[]⟩, .int .u16 P, .slice A2 n c2, .string ⟨#[]⟩, .int .u16 Q] v w' ∧ v.ownBlock ≠ u.ownBlock) (by rfl) (by rfl) (fun v w w' h hb => h.keep hb) (fun v w w' h hb => h.keep hb) (fun u v w w' h hb => ⟨h.1.keep hb, h.2.1.keep hb, h.2.2⟩) (fun u v w h => ⟨h.1, h.2.1⟩) (fun w1 hw1 => ?_) (fun w1 hw1 => ?_) (fun u w1 hw1 hu => ?_) (fun v w1 hw1 hv => ?_) ?_
    · refine tAt_call ?_ ?_ ?_ ?_
      rotate_left 2
      (go_simp; refine ⟨?_, ?_⟩ <;> with_reducible rfl)
      (go_at_call 18; (with_reducible refine (gates_c F fn fc es0 X xn xc xs w1 (hf4.keep hw1) (by omega) (hx4.keep hw1)).mono ?_); rintro e w2 ⟨v, rfl, h1, h2⟩; exact ⟨v, rfl, h1.mono hw1.size, h2⟩)
    · refine tAt_new ?_ ?_ ?_ ?_ ?_
      rotate_left 2
      (go_simp; first | (refine ⟨?_, ?_⟩ <;> with_reducible rfl) | with_reducible rfl)
      exact ⟨_, rfl, own_litG w1 #[.slice A1 n c1, .string ⟨#[]⟩, .int .u16 P, .slice A2 n c2, .string ⟨#[]⟩, .int .u16 Q] _ 3 2 _ hw1.size rfl (by omega)⟩
      exact (Below.refl _ _).alloc (Nat.le_refl _) _
    · refine tAt_new ?_ ?_ ?_ ?_ ?_
      rotate_left 2
      (go_simp; first | (refine ⟨?_, ?_⟩ <;> with_reducible rfl) | with_reducible rfl)
      exact ⟨hu.keep ((Below.refl _ _).alloc (Nat.le_refl _) _), ⟨_, rfl, own_litG w1 #[.slice A1 n c1, .string ⟨#[]⟩, .int .u16 P, .slice A2 n c2, .string ⟨#[]⟩, .int .u16 Q] _ 3 2 _ hw1.size rfl (by omega)⟩, fun h => by have := (hu.lt w1.heap.size h.symm).2; omega⟩
      exact (Below.refl _ _).alloc (Nat.le_refl _) _
    · refine tAt_call ?_ ?_ ?_ ?_
      rotate_left 2
      (go_simp; refine ⟨?_, ?_⟩ <;> with_reducible rfl)
      (go_at_call 18; (with_reducible refine (gates_c F fn fc es0 X xn xc xs w1 (hf4.keep hw1) (by omega) (hx4.keep hw1)).mono ?_); rintro e w2 ⟨v', rfl, h1, h2⟩; exact ⟨v', rfl, ⟨h1.mono hw1.size, hv.keep h2, fun h => by
        obtain ⟨g, rfl, ho⟩ := hv
        have h4 := (ho.lt g rfl).2
        have h5 := (h1.lt g h.symm).1
        omega⟩, h2⟩)
    rintro u v ⟨-, -, ⟨A7, k7, c7, es7, rfl, -⟩, ⟨g7, rfl, -⟩, -⟩
    (simp only [Act.put, List.setIfInBounds_toArray, List.set_cons_zero, List.set_cons_succ])
    refine t_change (fun v w' => MoreT (fn + 2) v w') (by rfl) (fun v w w' h hb => h.keep hb) (fun w1 hw1 => ?_) ?_
    · obtain ⟨hb, ⟨A8, k8, c8, es8, he8, hown8, hk8, hkn8, hall8, hin8⟩, ⟨g8, he9, hrow8⟩, hne8⟩ := hw1
      simp only [Value.slice.injEq] at he8 he9
      obtain ⟨rfl, rfl, rfl⟩ := he8
      obtain ⟨he9, -, -⟩ := he9
      injection he9 with he9
      injection he9 with he9
      subst he9
      obtain ⟨v', w', hr', h2, h3, h4⟩ := append_old (P := Tryd.prog) (w := w1) w4.heap.size 40 40 39 i0 (.agg #[.slice none 0 0, .string ⟨#[]⟩, .int .u16 0]) 3 48 Tryd.underlying40 hi hz0 hz1 hz2 rfl (by decide) (.slice A7 k7 c7) k7 (gtCells es8) hown8 ⟨g7, 0, none⟩ 2 2 [.slice A1 n c1, .string ⟨#[]⟩, .int .u16 P, .slice A2 n c2, .string ⟨#[]⟩, .int .u16 Q] rfl (fun j u hj => by rw [add_zero_off, Nat.zero_add]; exact (RC.of_own hrow8 (by simp)).elim fun g h => by obtain ⟨o, e1, -, e3⟩ := h; injection e1 with e1; injection e1 with e1 e2; subst e1 e2; have := e3 j u hj; rw [Nat.zero_add] at this; exact this) (by intro u hu; simp at hu; rcases hu with rfl | rfl | rfl | rfl | rfl | rfl <;> rfl) (by unfold maxLen; omega) (by omega) hb.size
      have hb' : Below w4.heap.size w4 w' := hb.grown h3 hb.size (own_row_ge hown8)
      refine ⟨v', w', append_op _ _ 40 rfl hr', ?_, hb', ⟨A7, k7, c7, es8, rfl, h4, hk8, hkn8, hall8, hin8.grown hown8 (by decide) h3⟩, ⟨g7, rfl, hrow8.kept h3 (.inr hne8)⟩, hne8⟩
      obtain ⟨A9, c9, rfl⟩ := own_slice h2
      have h2' : w'.ownsRow w4.heap.size 39 3 (.slice A9 (k7 + 2) c9) (k7 + 2) (gtCells (es8 ++ [⟨A1, n, c1, bs, P⟩, ⟨A2, n, c2, bs, Q⟩])) := by rw [gtCells_append]; exact h2
      refine ⟨A9, k7 + 2, c9, es8 ++ [⟨A1, n, c1, bs, P⟩, ⟨A2, n, c2, bs, Q⟩], rfl, ⟨by rw [List.length_append, hk8]; rfl, RC.of_own h2', fun e he => ?_⟩, by omega, fun e he => ?_⟩
      · rcases List.mem_append.1 he with he | he
        · exact RB.of_own ((hin8.grown hown8 (by decide) h3) e he)
        · simp at he
          rcases he with rfl | rfl
          · exact hrP.keep hb'
          · exact hrQ.keep hb'
      · rcases List.mem_append.1 he with he | he
        · exact hall8 e he
        · simp at he
          rcases he with rfl | rfl
          · exact ⟨hisl, hp2⟩
          · exact ⟨hisl, hq2⟩
    rintro v9 ⟨-, -, A9, L, c9, -, rfl, -⟩
    (simp only [Act.put, List.setIfInBounds_toArray, List.set_cons_zero, List.set_cons_succ])
    repeat (first | (refine t_skip rfl ?_; (simp only [Act.put, List.setIfInBounds_toArray, List.set_cons_zero, List.set_cons_succ])) | (refine t_run ?_ rfl (fun w1 hw1 => ?_) ?_; rotate_left; (go_simp; try (with_reducible rfl)); (simp only [Act.put, List.setIfInBounds_toArray, List.set_cons_zero, List.set_cons_succ])))
    intro w5 ⟨⟨hb5, _⟩, hM⟩
    simp only [List.drop_succ_cons, List.drop_zero]
    obtain ⟨A10, k10, c10, es, he10, hRG, hLn, hall⟩ := hM
    simp only [Value.slice.injEq] at he10
    obtain ⟨rfl, rfl, rfl⟩ := he10
    have hbP5 := hboxP.below hb5
    have hbQ5 := hboxQ.below hb5
    have hrP5 := hrP.keep hb5
    have hrQ5 := hrQ.keep hb5
    have hb05 := hb4.trans (hb5.mono hb4.size)
    have hz5 := hz.keep hb05
    have HALL := Lib.hid hall
    clear rP rQ hf4 hx4 hdr hboxP hboxQ hrP hrQ hb4 hb5 hall lP lQ hz hr hf hx
    go_wp2_with fail
    go_loopw [41] (fun i wr => ∃ (j : Nat), j ≤ L ∧ i = .int .i64 j ∧ Below w5.heap.size w5 wr) (fun i _ => L - (intOf i).toNat)
    case atStart => exact ⟨0, Nat.zero_le _, rfl, Below.refl _ _⟩
    case round =>
      obtain ⟨j, hj, rfl, hbb⟩ := hrel
      by_cases hlt : j < L
      · obtain ⟨g, o, e, hA9, hg, hek, hc0, hc1, hc2, hbe⟩ := (hRG.keep hbb).at hlt
        subst hA9
        obtain ⟨hel, hep⟩ := HALL.out e (List.mem_of_getElem? hek)
        have hen : e.n ≤ 16 := by have := hbe.1; unfold isLen at hel; omega
        have hxa : Below wr.heap.size wr (wr.alloc (.cells #[.slice e.a e.n e.c, .string ⟨#[]⟩, .int .u16 e.p] 39)) := (Below.refl _ _).alloc (Nat.le_refl _) _
        have hbox := boxPort wr (.slice e.a e.n e.c) (.string ⟨#[]⟩) (.int .u16 e.p)
        obtain ⟨gR, hgR⟩ : ∃ gR, gR = wr.heap.size := ⟨_, rfl⟩
        rw [← hgR] at hbox
        have HX := Lib.hid (And.intro hgR (And.intro hbox (And.intro (hbb.trans (hxa.mono hbb.size)) (hbe.keep hxa))))
        clear hgR hbox hxa hbe hek
        go_upto_region 8 with fail
        obtain ⟨hgR, hboxR, hb6, hbe⟩ := HX.out
        rw [← hgR]
        clear HX hgR hc0 hc1 hc2
        generalize wr.alloc (.cells #[.slice e.a e.n e.c, .string ⟨#[]⟩, .int .u16 e.p] 39) = w6 at *
        have hbP6 := hbP5.below hb6
        have hbQ6 := hbQ5.below hb6
        have hrP6 := hrP5.keep hb6
        have hrQ6 := hrQ5.keep hb6
        have hz6 := hz5.keep hb6
        have lP := hbP6.lt
        have lQ := hbQ6.lt
        have lR := hboxR.lt
        have rP : ∀ w', Below w6.heap.size w6 w' → ∀ i, w'.cell? ⟨gP, i, none⟩ = #[Value.slice A1 n c1, .string ⟨#[]⟩, .int .u16 P][i]? := fun w' h i => (h.cell (p := ⟨gP, i, none⟩) lP).trans (hbP6.cell i)
        have rQ : ∀ w', Below w6.heap.size w6 w' → ∀ i, w'.cell? ⟨gQ, i, none⟩ = #[Value.slice A2 n c2, .string ⟨#[]⟩, .int .u16 Q][i]? := fun w' h i => (h.cell (p := ⟨gQ, i, none⟩) lQ).trans (hbQ6.cell i)
        have rR : ∀ w', Below w6.heap.size w6 w' → ∀ i, w'.cell? ⟨gR, i, none⟩ = #[Value.slice e.a e.n e.c, .string ⟨#[]⟩, .int .u16 e.p][i]? := fun w' h i => (h.cell (p := ⟨gR, i, none⟩) lR).trans (hboxR.cell i)
        have hdr : Below w6.heap.size w6 w6.drew := ⟨rfl, rfl, rfl, Nat.le_refl _, fun _ _ => rfl⟩
        obtain ⟨x, hx⟩ : ∃ x, x = cmpG bs P e.bs e.p := ⟨_, rfl⟩
        obtain ⟨y, hy⟩ : ∃ y, y = cmpG e.bs e.p bs Q := ⟨_, rfl⟩
        have k1 : ∀ w', Below w6.heap.size w6 w' → Calls Tryd.prog 19 #[.agg #[.slice A1 n c1, .string ⟨#[]⟩, .int .u16 P], .agg #[.slice e.a e.n e.c, .string ⟨#[]⟩, .int .u16 e.p]] w' fun e w'' => e = .returned (.int .i64 x) ∧ Below w'.heap.size w' w'' := fun w' h => by
          rw [hx]
          exact gateOrder_c A1 e.a n e.n c1 e.c bs e.bs P e.p z w' (hz6.keep h) (hrP6.keep h) (hbe.keep h)
        have k2 : ∀ w', Below w6.heap.size w6 w' → Calls Tryd.prog 19 #[.agg #[.slice e.a e.n e.c, .string ⟨#[]⟩, .int .u16 e.p], .agg #[.slice A2 n c2, .string ⟨#[]⟩, .int .u16 Q]] w' fun e w'' => e = .returned (.int .i64 y) ∧ Below w'.heap.size w' w'' := fun w' h => by
          rw [hy]
          exact gateOrder_c e.a A2 e.n n e.c c2 e.bs bs e.p Q z w' (hz6.keep h) (hbe.keep h) (hrQ6.keep h)
        have hiff := between_iff hisl hel P Q e.p
        have hx1 := (cmpG_cases bs e.bs P e.p).2.2
        have hy1 := (cmpG_cases e.bs bs e.p Q).2.2
        rw [← hx] at hiff hx1
        rw [← hy] at hiff hy1
        have hs1 : e.bs = bs → x ≤ 0 → (P : Int) ≤ e.p := fun h h2 => by
          rw [hx, (cmpG_cases bs e.bs P e.p).1, h] at h2
          omega
        have hs2 : e.bs = bs → (P : Int) ≤ e.p → x ≤ 0 := fun h h2 => by
          rw [hx, (cmpG_cases bs e.bs P e.p).1, h]
          omega
        have HI := Lib.hid (And.intro hiff (And.intro hx1 (And.intro hy1 (And.intro hs1 hs2))))
        clear hiff hx hy hx1 hy1 hs1 hs2
        refine region_pick (Below w6.heap.size w6) [(0, false, none), (1, false, none), (2, false, none), (3, false, none), (4, false, none), (5, false, none), (6, false, none), (7, false, none)] 8 (by kernel_rfl) (by kernel_rfl) (fun w w' h hb => h.trans (hb.mono h.size)) (hdr) ?_
        simp only [pickOps, List.getElem?_cons_zero, List.getElem?_cons_succ]
        repeat (first | (refine t_skip rfl ?_; (simp only [Act.put, List.setIfInBounds_toArray, List.set_cons_zero, List.set_cons_succ])) | (refine t_run ?_ rfl (fun w1 hw1 => ?_) ?_; rotate_left; (have r0 := rP w1 hw1; have r1 := rQ w1 hw1; have r2 := rR w1 hw1; go_simp; try (with_reducible rfl)); (simp only [Act.put, List.setIfInBounds_toArray, List.set_cons_zero, List.set_cons_succ])) | (refine t_call ?_ ?_ ?_ rfl (fun w1 hw1 => ?_) (fun w1 hw1 => ?_) ?_; rotate_left 3; (have r0 := rP w1 hw1; have r1 := rQ w1 hw1; have r2 := rR w1 hw1; go_simp; refine ⟨?_, ?_⟩ <;> with_reducible rfl); (first | (go_at_call 19; (with_reducible refine (k1 w1 hw1).mono ?_); rintro e w2 ⟨rfl, hb⟩; refine ⟨?_, hb⟩; with_reducible rfl) | (go_at_call 19; (with_reducible refine (k2 w1 hw1).mono ?_); rintro e w2 ⟨rfl, hb⟩; refine ⟨?_, hb⟩; with_reducible rfl) | (go_at_call 19; (refine (k1 w1 hw1).mono ?_); rintro e w2 ⟨rfl, hb⟩; refine ⟨?_, hb⟩; with_reducible rfl) | (go_at_call 19; (refine (k2 w1 hw1).mono ?_); rintro e w2 ⟨rfl, hb⟩; refine ⟨?_, hb⟩; with_reducible rfl)); (simp only [Act.put, List.setIfInBounds_toArray, List.set_cons_zero, List.set_cons_succ])))
        intro w7 hw7
        simp only [List.drop_succ_cons, List.drop_zero]
        have hb7 := hb6.trans (hw7.mono hb6.size)
        have cP := (hbP6.below hw7).cell
        have cQ := (hbQ6.below hw7).cell
        have cR := (hboxR.below hw7).cell
        have hgR7 := (hboxR.below hw7).lt
        have hrP7 := hrP6.keep hw7
        have hbe7 := hbe.keep hw7
        have hx1 : ¬ (1 : Int) < x := by have := HI.out.2.1; omega
        have hy1 : ¬ (1 : Int) < y := by have := HI.out.2.2.1; omega
        clear rP rQ rR k1 k2 hdr lP lQ lR hbP6 hbQ6 hrP6 hrQ6 hboxR hbe hw7 hb6 hz6
        go_wp2_with fail
        refine (sameAddr_c e.a A1 e.n n e.c c1 e.bs bs w7 hbe7 hrP7 (by omega)).mono ?_
        rintro e1 w8 ⟨rfl, hb8⟩
        have hb78 := hb7.trans (hb8.mono hb7.size)
        have cP8 := fun i => (hb8.cell (p := ⟨gP, i, none⟩) (show gP < w7.heap.size from Nat.lt_of_lt_of_le hbP5.lt hb7.size)).trans (cP i)
        have cQ8 := fun i => (hb8.cell (p := ⟨gQ, i, none⟩) (show gQ < w7.heap.size from Nat.lt_of_lt_of_le hbQ5.lt hb7.size)).trans (cQ i)
        have cR8 := fun i => (hb8.cell (p := ⟨gR, i, none⟩) hgR7).trans (cR i)
        clear cP cQ cR hb8 hb7 hrP7 hbe7
        by_cases hq1 : e.bs = bs
        · rw [show decide (e.bs = bs) = true by simpa using hq1]
          by_cases hq2' : P ≤ e.p
          · have d1 : decide ((P : Int) ≤ (e.p : Int)) = true ∧ decide (P ≤ e.p) = true := by simp; omega
            have hx0 : x ≤ 0 := HI.out.2.2.2.2 hq1 (by omega)
            have d3 : decide (x ≤ 0) = true := by simp; omega
            by_cases hq3 : e.p ≤ Q
            · have d2 : decide ((e.p : Int) ≤ (Q : Int)) = true ∧ decide (e.p ≤ Q) = true := by simp; omega
              have hh := HI.out.1.2 ⟨hq1, by omega, by omega⟩
              have d4 : decide (y ≤ 0) = true := by simp; omega
              clear hq1
              go_wp2
              go_roundw
              case rel => exact ⟨j + 1, by omega, by go_num, hb78⟩
              case measure => simp [intOf]; omega
            · have d2 : decide ((e.p : Int) ≤ (Q : Int)) = false ∧ decide (e.p ≤ Q) = false := by simp; omega
              have hy0 : ¬ y ≤ 0 := fun h => by have := (HI.out.1.1 ⟨hx0, h⟩).2.2; omega
              have d4 : decide (y ≤ 0) = false := by simp; omega
              clear hq1
              go_wp2
              go_roundw
              case rel => exact ⟨j + 1, by omega, by go_num, hb78⟩
              case measure => simp [intOf]; omega
          · have d1 : decide ((P : Int) ≤ (e.p : Int)) = false ∧ decide (P ≤ e.p) = false := by simp; omega
            have hx0 : ¬ x ≤ 0 := fun h => by have := HI.out.2.2.2.1 hq1 h; omega
            have d3 : decide (x ≤ 0) = false := by simp; omega
            clear hq1
            go_wp2
            go_roundw
            case rel => exact ⟨j + 1, by omega, by go_num, hb78⟩
            case measure => simp [intOf]; omega
        · rw [show decide (e.bs = bs) = false by simpa using hq1]
          by_cases hx0 : x ≤ 0
          · have hy0 : ¬ y ≤ 0 := fun h => hq1 (HI.out.1.1 ⟨hx0, h⟩).1
            have d3 : decide (x ≤ 0) = true := by simp; omega
            have d4 : decide (y ≤ 0) = false := by simp; omega
            clear hq1
            go_wp2
            go_roundw
            case rel => exact ⟨j + 1, by omega, by go_num, hb78⟩
            case measure => simp [intOf]; omega
          · have d3 : decide (x ≤ 0) = false := by simp; omega
            clear hq1
            go_wp2
            go_roundw
            case rel => exact ⟨j + 1, by omega, by go_num, hb78⟩
            case measure => simp [intOf]; omega
      · have hbw := hb05.trans (hbb.mono hb05.size)
        go_wp2
        go_returns
        exact ⟨rfl, hbw⟩
  · rw [show (n == 4 || n == 16) = false by simpa using hla]
    go_wp2_with fail
    go_returns
    exact ⟨rfl, hb0⟩
end Go.Proofs.YtocckokbdacdfaaDoor
