/-
  The walk of laws.FnCommonBits.
-/
import Derived.Test.YtckfgdohpmllmaaDoorAllIn
namespace Go.Proofs.YtckfgdohpmllmaaDoor
open Go Go.RowKit
theorem same_push {es0 es' : List En} {e : En} (h : ∀ y ∈ es', y ∈ es0 ∧ isLen y.n ∧ ∀ f ∈ es', y.n = f.n) (he : e ∈ es0) (hl : isLen e.n) (hs : ∀ f ∈ es', e.n = f.n) : ∀ y ∈ es' ++ [e], y ∈ es0 ∧ isLen y.n ∧ ∀ f ∈ es' ++ [e], y.n = f.n := by
  intro y hy
  rcases List.mem_append.1 hy with hy1 | hy
  · refine ⟨(h y hy1).1, (h y hy1).2.1, fun f hf => ?_⟩
    rcases List.mem_append.1 hf with hf | hf
    · exact (h y hy1).2.2 f hf
    · simp at hf; subst hf; exact (hs y hy1).symm
  · simp at hy
    subst hy
    refine ⟨he, hl, fun f hf => ?_⟩
    rcases List.mem_append.1 hf with hf | hf
    · exact hs f hf
    · simp at hf; subst hf; rfl
set_option maxRecDepth 100000 in
set_option maxHeartbeats 64000000 in
theorem commB_walk (A : Option Addr) (n c : Nat) (es0 : List En) (z : ZP) (w : World) (hz : Zs w z) (hl : RS w A n es0) (hn : n * 24 ≤ 140737488355328) :
    Calls Tryd.prog 9 #[.slice A n c] w (TrueW w) := by
  obtain ⟨i0, hi, hz0, hz1, hz2⟩ := info_parts infoBs
  obtain ⟨k0, hki, hkz0, hkz1, hkz2⟩ := info_parts infoI64
  go_enter Tryd.func9, Tryd.ntmps9
  go_wp2_with fail
  go_loopw [3, 18] (fun v i wr => ∃ (j : Nat) (es' : List En), j ≤ n ∧ i = .int .i64 j ∧ wr.ownsRow w.heap.size 22 1 v es'.length (es'.map fun e => .slice e.a e.n e.c) ∧ es'.length ≤ j ∧ (∀ e ∈ es', e ∈ es0 ∧ isLen e.n ∧ ∀ f ∈ es', e.n = f.n) ∧ Below w.heap.size w wr) (fun _ i _ => n - (intOf i).toNat)
  case atStart => exact ⟨0, [], Nat.zero_le _, rfl, World.ownsRow_nil _ _ _ _, Nat.le_refl _, fun e he => (by simp at he), Below.refl _ _⟩
  case round =>
    obtain ⟨j, es', hj, rfl, hown, hlj, hmem, hbb⟩ := hrel
    obtain ⟨L, hL⟩ : ∃ L, L = es'.length := ⟨_, rfl⟩
    rw [← hL] at hown hlj
    obtain ⟨A3, c3, rfl⟩ := own_slice hown
    have HL := Lib.hid (And.intro hL hmem)
    clear hL hmem
    by_cases hlt : j < n
    · obtain ⟨g, o, e, hA, hg, hek, hc0, hbe, hnil, hcap⟩ := (hl.keep hbb).at hlt
      subst hA
      have HE := Lib.hid hek
      have HO := Lib.hid hown
      clear hek
      go_wp2_with fail
      refine (isAddress_c e.a e.n e.c wr).mono ?_
      rintro e1 w1 ⟨rfl, hb1⟩
      have hbb1 := hbb.trans (hb1.mono hbb.size)
      by_cases hla : (e.n == 4 || e.n == 16) = true
      · rw [hla]
        have hisl : isLen e.n := by simpa [isLen] using hla
        clear hla
        by_cases hL0 : L = 0
        · have hsa : ∀ f ∈ es', e.n = f.n := fun f hf => by rw [List.eq_nil_of_length_eq_zero (l := es') (by rw [← HL.out.1]; exact hL0)] at hf; simp at hf
          have HSA := Lib.hid hsa
          subst hL0
          clear hsa hown
          have HO1 := Lib.hid (own_below HO.out hb1)
          have hsz1 := hbb1.size
          go_wp2_with ((at_builtin; refine append1 rfl _ _ 25 rfl (w.heap.size) 22 i0 (.slice none 0 0) 1 24 Tryd.underlying25 hi hz0 hz1 hz2 rfl (by decide) _ _ _ rfl (HO1.out) _ _ [.slice e.a e.n e.c] rfl (by simp) rfl rfl (by unfold maxLen; omega) (by omega) (by first | omega | (simp; omega)) ?_))
          intro v3 w3 hown3 hgrow
          have hxz : Below w1.heap.size w1 (w1.alloc (.cells #[.slice e.a e.n e.c] 22)) := (Below.refl _ _).alloc (Nat.le_refl _) _
          have hb3 : Below w.heap.size w w3 := (hbb1.trans (hxz.mono hbb1.size)).grown hgrow (Nat.le_trans hbb1.size hxz.size) (own_row_ge HO1.out)
          have he3 : w3.ownsRow w.heap.size 22 1 v3 (es' ++ [e]).length ((es' ++ [e]).map fun e => .slice e.a e.n e.c) := by rw [List.map_append, List.length_append, ← HL.out.1]; exact hown3
          have hl3 : (es' ++ [e]).length ≤ j + 1 := by rw [List.length_append, ← HL.out.1]; simp only [List.length_cons, List.length_nil]; omega
          have G1 := Lib.hid (And.intro he3 (And.intro hl3 (same_push HL.out.2 (List.mem_of_getElem? HE.out) hisl HSA.out)))
          clear he3 hl3 hown3 hgrow hxz HO1 HO
          go_wp2
          go_roundw
          case rel => exact ⟨j + 1, es' ++ [e], by omega, by go_num, G1.out.1, G1.out.2.1, G1.out.2.2, hb3⟩
          case measure => simp [intOf]; omega
        · obtain ⟨g3, hA3, hg3, hc3⟩ := own_some hown (by omega)
          subst hA3
          obtain ⟨f, hf⟩ : ∃ f, es'[0]? = some f := ⟨es'[0]'(by rw [← HL.out.1]; omega), List.getElem?_eq_getElem _⟩
          have hf0 := (hb1.cell (p := ⟨g3, 0, none⟩) hg3).trans (hc3 0 (.slice f.a f.n f.c) (by rw [List.getElem?_map, hf]; rfl))
          have hfm := List.mem_of_getElem? hf
          clear hc3 hf
          have hi0 : (0 : Int) < L := by omega
          have hl0 : ((L : Int) == 0) = false := by simp; omega
          by_cases hef : e.n = f.n
          · have hsa : ∀ y ∈ es', e.n = y.n := fun y hy => by rw [hef]; exact (HL.out.2 f hfm).2.2 y hy
            have HSA := Lib.hid hsa
            have hq : ((e.n : Int) == f.n) = true := by simp; omega
            clear hsa hef hfm hown
            have HO1 := Lib.hid (own_below HO.out hb1)
            have hsz1 := hbb1.size
            go_wp2_with ((at_builtin; refine append1 rfl _ _ 25 rfl (w.heap.size) 22 i0 (.slice none 0 0) 1 24 Tryd.underlying25 hi hz0 hz1 hz2 rfl (by decide) _ _ _ rfl (HO1.out) _ _ [.slice e.a e.n e.c] rfl (by simp) rfl rfl (by unfold maxLen; omega) (by omega) (by first | omega | (simp; omega)) ?_))
            intro v3 w3 hown3 hgrow
            have hxz : Below w1.heap.size w1 (w1.alloc (.cells #[.slice e.a e.n e.c] 22)) := (Below.refl _ _).alloc (Nat.le_refl _) _
            have hb3 : Below w.heap.size w w3 := (hbb1.trans (hxz.mono hbb1.size)).grown hgrow (Nat.le_trans hbb1.size hxz.size) (own_row_ge HO1.out)
            have he3 : w3.ownsRow w.heap.size 22 1 v3 (es' ++ [e]).length ((es' ++ [e]).map fun e => .slice e.a e.n e.c) := by rw [List.map_append, List.length_append, ← HL.out.1]; exact hown3
            have hl3 : (es' ++ [e]).length ≤ j + 1 := by rw [List.length_append, ← HL.out.1]; simp only [List.length_cons, List.length_nil]; omega
            have G1 := Lib.hid (And.intro he3 (And.intro hl3 (same_push HL.out.2 (List.mem_of_getElem? HE.out) hisl HSA.out)))
            clear he3 hl3 hown3 hgrow hxz HO1 HO
            go_wp2
            go_roundw
            case rel => exact ⟨j + 1, es' ++ [e], by omega, by go_num, G1.out.1, G1.out.2.1, G1.out.2.2, hb3⟩
            case measure => simp [intOf]; omega
          · have hq : ((e.n : Int) == f.n) = false := by simp; omega
            clear hef hfm hown
            have G1 := Lib.hid (own_below HO.out hb1)
            go_wp2
            go_roundw
            case rel => exact ⟨j + 1, es', by omega, by go_num, by rw [← HL.out.1]; exact G1.out, by rw [← HL.out.1]; omega, HL.out.2, hbb1⟩
            case measure => simp [intOf]; omega
      · rw [show (e.n == 4 || e.n == 16) = false by simpa using hla]
        clear hown
        have G1 := Lib.hid (own_below HO.out hb1)
        go_wp2
        go_roundw
        case rel => exact ⟨j + 1, es', by omega, by go_num, by rw [← HL.out.1]; exact G1.out, by rw [← HL.out.1]; omega, HL.out.2, hbb1⟩
        case measure => simp [intOf]; omega
    · obtain rfl : j = n := by omega
      by_cases hL0 : L = 0
      · subst hL0
        go_wp2
        go_returns
        exact ⟨rfl, hbb⟩
      · have hRS0 : RS wr A3 L es' := ⟨HL.out.1.symm, RC.of_own hown, fun e he => (hl.keep hbb).2.2 e (HL.out.2 e he).1⟩
        obtain ⟨g3, hA3, hg30, hc3⟩ := own_some hown (by omega)
        subst hA3
        obtain ⟨e0, he0⟩ : ∃ e0, es'[0]? = some e0 := ⟨es'[0]'(by rw [← HL.out.1]; omega), List.getElem?_eq_getElem _⟩
        have hE0 := hc3 0 (.slice e0.a e0.n e0.c) (by rw [List.getElem?_map, he0]; rfl)
        have hem0 := List.mem_of_getElem? he0
        have his0 : isLen e0.n := (HL.out.2 e0 hem0).2.1
        obtain ⟨hbe0, hnil0, hcap0⟩ := hRS0.2.2 e0 hem0
        have HM0 := Lib.hid (And.intro hem0 (And.intro he0 (fun y hy => (HL.out.2 e0 hem0).2.2 y hy)))
        have HL1 := Lib.hid HL.out.1
        have HLI := Lib.hid (fun y hy => (HL.out.2 y hy).2.1)
        have hn16 : e0.n ≤ 16 ∧ 0 < e0.n := by unfold isLen at his0; omega
        have hzr := hz.keep hbb
        have hbw := hbb
        have hl0 : ((L : Int) == 0) = false := by simp; omega
        have hi0 : (0 : Int) < L := by omega
        clear hL0 hc3 he0 hem0 HL hown hl hz hbb hlt
        obtain ⟨w2, hw2⟩ : ∃ w2, w2 = wr := ⟨_, rfl⟩
        subst hw2
        go_wp2_with fail
        go_loopw [8, 9] (fun v i wr => ∃ (j : Nat), j ≤ 8 * e0.n + 1 ∧ i = .int .i64 j ∧ wr.ownsRow w2.heap.size 3 1 v j ((List.range j).map fun (x : Nat) => Value.int .i64 (x : Int)) ∧ Below w2.heap.size w2 wr) (fun _ i _ => 8 * e0.n + 1 - (intOf i).toNat)
        case atStart => exact ⟨0, Nat.zero_le _, rfl, World.ownsRow_nil _ _ _ _, Below.refl _ _⟩
        case round =>
          obtain ⟨j, hj8, rfl, hown, hbb⟩ := hrel
          obtain ⟨A8, c8, rfl⟩ := own_slice hown
          by_cases hlt : j ≤ 8 * e0.n
          · have HO := Lib.hid hown
            have hsz := hbb.size
            clear hown
            go_wp2_with ((at_builtin; refine append1 rfl _ _ 40 rfl (w2.heap.size) 3 k0 (.int .i64 0) 1 8 Tryd.underlying40 hki hkz0 hkz1 hkz2 rfl (by decide) _ _ _ rfl (HO.out) _ _ [.int .i64 j] rfl (by simp) rfl rfl (by unfold maxLen; omega) (by omega) (by first | omega | (simp; omega)) ?_))
            intro v9 w9 hown9 hgrow
            have hxb : Below wr.heap.size wr (wr.alloc (.cells #[.int .i64 j] 3)) := (Below.refl _ _).alloc (Nat.le_refl _) _
            have hb9 : Below w2.heap.size w2 w9 := (hbb.trans (hxb.mono hbb.size)).grown hgrow (Nat.le_trans hbb.size hxb.size) (own_row_ge HO.out)
            have hu9 : w9.ownsRow w2.heap.size 3 1 v9 (j + 1) ((List.range (j + 1)).map fun (x : Nat) => Value.int .i64 (x : Int)) := by rw [List.range_succ, List.map_append]; exact hown9
            have G1 := Lib.hid hu9
            clear hu9 hown9 hgrow hxb HO
            go_wp2
            go_roundw
            case rel => exact ⟨j + 1, by omega, by go_num, G1.out, hb9⟩
            case measure => simp [intOf]; omega
          · obtain rfl : j = 8 * e0.n + 1 := by omega
            have hrun0 : RN wr A8 (8 * e0.n + 1) (List.range (8 * e0.n + 1)) := ⟨List.length_range, RC.of_own hown⟩
            have hg3r := Nat.lt_of_lt_of_le hg30 hbb.size
            have hE1 := (hbb.cell (p := ⟨g3, 0, none⟩) hg30).trans hE0
            have hbe1 := hbe0.keep hbb
            have hz1' := hzr.keep hbb
            have hRS1 := hRS0.keep hbb
            have hb02 := hbw.trans (hbb.mono hbw.size)
            clear hown hbb hE0 hbe0 hzr hRS0 hbw hg30
            go_wp2_with fail
            refine (plain_c e0.a e0.n e0.c e0.bs wr hbe1 hnil0 hcap0).mono ?_
            rintro e1 w3 ⟨A9, c9, rfl, hown9, hb3⟩
            have hr9 := RB.of_own hown9
            have hrun3 := hrun0.keep hb3
            have hz3 := hz1'.keep hb3
            have hra : ∀ x ∈ List.range (8 * e0.n + 1), x ≤ 8 * e0.bs.length := fun x hx => by
              have := List.mem_range.1 hx
              rw [hr9.1]
              omega
            clear hown9
            go_wp2_with fail
            refine (prefixesOf_c A9 e0.n c9 e0.bs A8 (8 * e0.n + 1) _ (List.range (8 * e0.n + 1)) z w3 hz3 hr9 (by rw [hr9.1]; exact his0) hrun3 hra (by omega)).mono ?_
            rintro e1 w4 ⟨A4, c4, fs, rfl, hown4, hmap4, hin4, hb4⟩
            have hcl4 : fs.length = 8 * e0.n + 1 := by have := congrArg List.length hmap4; unfold cutsOf at this; simp only [List.length_map, List.length_range] at this; exact this
            rw [hcl4] at hown4 ⊢
            obtain ⟨g4, hA4, hg4, hc4⟩ := own_some hown4 (by omega)
            subst hA4
            have hb24 := hb3.trans (hb4.mono hb3.size)
            have hg3 := Nat.lt_of_lt_of_le hg3r hb24.size
            have hE4 := (hb24.cell (p := ⟨g3, 0, none⟩) hg3r).trans hE1
            have H30 := Lib.hid hE4
            have hRS := hRS1.keep hb24
            have hz4 := hz3.keep hb4
            have hrun := hrun3.keep hb4
            have hb04 := hb02.trans (hb24.mono hb02.size)
            have HRA := Lib.hid hra
            have HC4 := Lib.hid (And.intro hmap4 (And.intro hin4 (And.intro hc4 hcl4)))
            have hlb0 : e0.bs.length = e0.n := by rw [hr9.1]
            have HLB := Lib.hid hlb0
            clear hown4 hmap4 hin4 hc4 hcl4 hr9 hrun3 hrun0 hz3 hz1' hE1 hE4 hRS1 hb02 hb24 hb3 hb4 hbe1 hg3r hra hlb0
            obtain ⟨wo1, hwo⟩ : ∃ wo1, wo1 = wr := ⟨_, rfl⟩
            subst hwo
            go_wp2_with fail
            go_loopw [7, 74] (fun v i wr => ∃ (t C : Nat), t ≤ L ∧ i = .int .i64 t ∧ v = .int .i64 C ∧ ComInv e0.bs es' t C ∧ Below w4.heap.size w4 wr) (fun _ i _ => L - (intOf i).toNat)
            case atStart => exact ⟨0, 8 * e0.n, Nat.zero_le _, rfl, by go_num, by rw [← HLB.out]; exact ComInv.start _ _, Below.refl _ _⟩
            case round =>
              obtain ⟨t, C, ht, rfl, rfl, hCI, hbb⟩ := hrel
              have hC8 := hCI.le
              rw [HLB.out] at hC8
              have HCI := Lib.hid hCI
              clear hCI
              by_cases htl : t < L
              · obtain ⟨g, o, e, hA, hg, hek, hc0, hbe, hnil, hcap⟩ := (hRS.keep hbb).at htl
                injection hA with hA
                injection hA with hA1 hA2
                subst hA1 hA2
                rw [Nat.zero_add] at hc0
                have hem := List.mem_of_getElem? hek
                have hisl := HLI.out e hem
                have hen : e.n = e0.n := by exact (HM0.out.2.2 e hem).symm
                have HE := Lib.hid hek
                have HEN := Lib.hid hen
                have he16 : e.n ≤ 16 := by omega
                clear hek hem hen
                have hbb0 := hbb
                have hi0 : (0 : Int) ≤ t ∧ (t : Int) < L := by omega
                obtain ⟨wo2, hwo⟩ : ∃ wo2, wo2 = wr := ⟨_, rfl⟩
                subst hwo
                go_wp2_with fail
                go_loopw [13] (fun i wr => ∃ (k : Nat), k ≤ C ∧ i = .int .i64 k ∧ (∀ i < k, bitAt e.bs i = bitAt e0.bs i) ∧ Below w4.heap.size w4 wr) (fun i _ => C - (intOf i).toNat)
                case atStart => exact ⟨0, Nat.zero_le _, rfl, fun i hi => absurd hi (Nat.not_lt_zero i), hbb0⟩
                case round =>
                  clear hbb0 hc0 hbe hbb
                  obtain ⟨k, hkC, rfl, hk, hbb⟩ := hrel
                  have HK := Lib.hid hk
                  clear hk
                  have hbe := (hRS.keep hbb).2.2 e (List.mem_of_getElem? HE.out)
                  have hb0 := (hRS.keep hbb).2.2 e0 HM0.out.1
                  have hg3r := Nat.lt_of_lt_of_le hg3 hbb.size
                  have hE0 := (hbb.cell (p := ⟨g3, 0, none⟩) hg3).trans H30.out
                  have rE : ∀ w', Below wr.heap.size wr w' → w'.cell? ⟨g3, 0, none⟩ = some (.slice e0.a e0.n e0.c) := fun w' hb => (hb.cell (p := ⟨g3, 0, none⟩) hg3r).trans hE0
                  have hdr : Below wr.heap.size wr wr.drew := ⟨rfl, rfl, rfl, Nat.le_refl _, fun _ _ => rfl⟩
                  have hbe' := hbe.1
                  have hb0' := hb0.1
                  clear hE0 hbe hb0
                  by_cases hlt : k < C
                  · have q1 : decide (k < C) = true ∧ decide ((k : Int) < (C : Int)) = true := by simp; omega
                    have q2 : (0 : Int) < L ∧ 0 < L := by omega
                    have q3 : k < 8 * e.n ∧ k < 8 * e0.n := by have := HEN.out; omega
                    have kE : ∀ w', Below wr.heap.size wr w' → Calls Tryd.prog 18 #[.slice e.a e.n e.c, .int .i64 k] w' fun e' w'' => e' = .returned (.bool (bitAt e.bs k)) ∧ Below w'.heap.size w' w'' := fun w' hb => hasBit_c e.a e.n e.c e.bs k w' (hbe'.keep hb) q3.1 (by omega)
                    have k0' : ∀ w', Below wr.heap.size wr w' → Calls Tryd.prog 18 #[.slice e0.a e0.n e0.c, .int .i64 k] w' fun e' w'' => e' = .returned (.bool (bitAt e0.bs k)) ∧ Below w'.heap.size w' w'' := fun w' hb => hasBit_c e0.a e0.n e0.c e0.bs k w' (hb0'.keep hb) q3.2 (by omega)
                    have HQ := Lib.hid (And.intro q1 q2)
                    clear q1 q2 q3 hlt
                    obtain ⟨x, hx⟩ : ∃ x, x = bitAt e.bs k := ⟨_, rfl⟩
                    obtain ⟨y, hy⟩ : ∃ y, y = bitAt e0.bs k := ⟨_, rfl⟩
                    rw [← hx] at kE
                    rw [← hy] at k0'
                    have HXY := Lib.hid (And.intro hx hy)
                    clear hx hy
                    by_cases hxy : x = y
                    · subst hxy
                      go_wp2_with fail
                      refine region_pick (Below wr.heap.size wr) [(0, false, none), (1, false, none), (2, false, none), (3, false, none), (4, false, none), (5, false, none), (6, false, none), (7, false, none), (8, false, none), (9, false, none), (10, false, none), (11, false, none), (12, false, none), (13, false, none)] 14 (by kernel_rfl) (by kernel_rfl) (fun w w' h hb => h.trans (hb.mono h.size)) (hdr) ?_
                      simp only [pickOps, List.getElem?_cons_zero, List.getElem?_cons_succ]
                      repeat (first | (refine t_skip rfl ?_; (simp only [Act.put, List.setIfInBounds_toArray, List.set_cons_zero, List.set_cons_succ])) | (refine t_run ?_ rfl (fun w1 hw1 => ?_) ?_; rotate_left; (have r0 := rE w1 hw1; have r1 := HQ.out.1.1; have r2 := HQ.out.1.2; have r3 := HQ.out.2.1; have r4 := HQ.out.2.2; go_simp; try (with_reducible rfl)); (simp only [Act.put, List.setIfInBounds_toArray, List.set_cons_zero, List.set_cons_succ])) | (refine t_call ?_ ?_ ?_ rfl (fun w1 hw1 => ?_) (fun w1 hw1 => ?_) ?_; rotate_left 3; (have r0 := rE w1 hw1; have r1 := HQ.out.1.1; have r2 := HQ.out.1.2; have r3 := HQ.out.2.1; have r4 := HQ.out.2.2; go_simp; refine ⟨?_, ?_⟩ <;> with_reducible rfl); (first | (go_at_call 18; (with_reducible refine (kE w1 hw1).mono ?_); rintro e w2 ⟨rfl, hb⟩; refine ⟨?_, hb⟩; with_reducible rfl) | (go_at_call 18; (with_reducible refine (k0' w1 hw1).mono ?_); rintro e w2 ⟨rfl, hb⟩; refine ⟨?_, hb⟩; with_reducible rfl) | (go_at_call 18; (refine (kE w1 hw1).mono ?_); rintro e w2 ⟨rfl, hb⟩; refine ⟨?_, hb⟩; with_reducible rfl) | (go_at_call 18; (refine (k0' w1 hw1).mono ?_); rintro e w2 ⟨rfl, hb⟩; refine ⟨?_, hb⟩; with_reducible rfl)); (simp only [Act.put, List.setIfInBounds_toArray, List.set_cons_zero, List.set_cons_succ])))
                      intro w5 hw5
                      simp only [List.drop_succ_cons, List.drop_zero]
                      have hb5 := hbb.trans (hw5.mono hbb.size)
                      have hk2 : ∀ i < k + 1, bitAt e.bs i = bitAt e0.bs i := fun i hi => by
                        rcases Nat.lt_succ_iff_lt_or_eq.1 hi with h | h
                        · exact HK.out i h
                        · rw [h, ← HXY.out.1, ← HXY.out.2]
                      have HK2 := Lib.hid hk2
                      have hkc2 : k + 1 ≤ C := by have := HQ.out.1.1; simp at this; omega
                      clear rE kE k0' hdr hk2 HQ
                      go_wp2
                      go_roundw
                      case rel => exact ⟨k + 1, hkc2, by go_num, HK2.out, hb5⟩
                      case measure => simp [intOf]; omega
                    · have hq : (x == y) = false ∧ decide (x = y) = false := by simp [hxy]
                      have HXF := Lib.hid hq
                      have HM := Lib.hid (show k = C ∨ bitAt e.bs k ≠ bitAt e0.bs k from .inr (by rw [← HXY.out.1, ← HXY.out.2]; exact hxy))
                      clear hq hxy
                      go_wp2_with fail
                      refine region_pick (Below wr.heap.size wr) [(0, false, none), (1, false, none), (2, false, none), (3, false, none), (4, false, none), (5, false, none), (6, false, none), (7, false, none), (8, false, none), (9, false, none), (10, false, none), (11, false, none), (12, false, none), (13, false, none)] 14 (by kernel_rfl) (by kernel_rfl) (fun w w' h hb => h.trans (hb.mono h.size)) (hdr) ?_
                      simp only [pickOps, List.getElem?_cons_zero, List.getElem?_cons_succ]
                      repeat (first | (refine t_skip rfl ?_; (simp only [Act.put, List.setIfInBounds_toArray, List.set_cons_zero, List.set_cons_succ])) | (refine t_run ?_ rfl (fun w1 hw1 => ?_) ?_; rotate_left; (have r0 := rE w1 hw1; have r1 := HQ.out.1.1; have r2 := HQ.out.1.2; have r3 := HQ.out.2.1; have r4 := HQ.out.2.2; have r5 := HXF.out.1; have r6 := HXF.out.2; go_simp; try (with_reducible rfl)); (simp only [Act.put, List.setIfInBounds_toArray, List.set_cons_zero, List.set_cons_succ])) | (refine t_call ?_ ?_ ?_ rfl (fun w1 hw1 => ?_) (fun w1 hw1 => ?_) ?_; rotate_left 3; (have r0 := rE w1 hw1; have r1 := HQ.out.1.1; have r2 := HQ.out.1.2; have r3 := HQ.out.2.1; have r4 := HQ.out.2.2; have r5 := HXF.out.1; have r6 := HXF.out.2; go_simp; refine ⟨?_, ?_⟩ <;> with_reducible rfl); (first | (go_at_call 18; (with_reducible refine (kE w1 hw1).mono ?_); rintro e w2 ⟨rfl, hb⟩; refine ⟨?_, hb⟩; with_reducible rfl) | (go_at_call 18; (with_reducible refine (k0' w1 hw1).mono ?_); rintro e w2 ⟨rfl, hb⟩; refine ⟨?_, hb⟩; with_reducible rfl) | (go_at_call 18; (refine (kE w1 hw1).mono ?_); rintro e w2 ⟨rfl, hb⟩; refine ⟨?_, hb⟩; with_reducible rfl) | (go_at_call 18; (refine (k0' w1 hw1).mono ?_); rintro e w2 ⟨rfl, hb⟩; refine ⟨?_, hb⟩; with_reducible rfl)); (simp only [Act.put, List.setIfInBounds_toArray, List.set_cons_zero, List.set_cons_succ])))
                      intro w5' hw5
                      simp only [List.drop_succ_cons, List.drop_zero]
                      have hb5' := hbb.trans (hw5.mono hbb.size)
                      clear rE kE k0' hdr HQ HXF hw5 hbb
                      have hbX := hb5'
                      have hbe6 := (hRS.keep hbX).2.2 e (List.mem_of_getElem? HE.out)
                      have hrun6 := hrun.keep hbX
                      have hz6 := hz4.keep hbX
                      go_wp2_with fail
                      refine (plain_c e.a e.n e.c e.bs w5' hbe6.1 hbe6.2.1 hbe6.2.2).mono ?_
                      rintro e1 w5 ⟨A5, c5, rfl, hown5, hb5⟩
                      have hr5 := RB.of_own hown5
                      have hb45 := hbX.trans (hb5.mono hbX.size)
                      have hru5 := hrun6.keep hb5
                      have hz5 := hz6.keep hb5
                      clear hown5 hrun6 hz6 hb5 hbX hbe6
                      go_wp2_with fail
                      refine (prefixesOf_c A5 e.n c5 e.bs A8 (8 * e0.n + 1) _ (List.range (8 * e0.n + 1)) z w5 hz5 hr5 (by rw [hr5.1]; exact hisl) hru5 (fun x hx => by rw [hr5.1, HEN.out, ← HLB.out]; exact HRA.out x hx) (by omega)).mono ?_
                      rintro e1 w6 ⟨A6, c6, cs, rfl, hown6, hmap6, hin6, hb6⟩
                      have hcl : cs.length = 8 * e0.n + 1 := by have := congrArg List.length hmap6; unfold cutsOf at this; simp only [List.length_map, List.length_range] at this; exact this
                      rw [hcl] at hown6 ⊢
                      have hb46 := hb45.trans (hb6.mono hb45.size)
                      obtain ⟨g6, hA6, hg6, hc6⟩ := own_some hown6 (by omega)
                      subst hA6
                      have HC6 := Lib.hid (And.intro hmap6 (And.intro hin6 (And.intro hc6 hcl)))
                      clear hmap6 hin6 hown6 hcl hr5 hru5 hz5 hb45 hb6 hc6
                      obtain ⟨wo, hwo⟩ : ∃ wo, wo = wr := ⟨_, rfl⟩
                      subst hwo
                      go_wp2_with fail
                      go_loopw [105] (fun i wr => ∃ (u : Nat), u ≤ 8 * e0.n + 1 ∧ i = .int .i64 u ∧ Below w6.heap.size w6 wr) (fun i _ => 8 * e0.n + 1 - (intOf i).toNat)
                      case atStart => exact ⟨0, Nat.zero_le _, rfl, Below.refl _ _⟩
                      case round =>
                        obtain ⟨u, hu, rfl, hbu⟩ := hrel
                        by_cases hul : u < 8 * e0.n + 1
                        · obtain ⟨a, hak⟩ : ∃ a, cs[u]? = some a := ⟨cs[u]'(by rw [HC6.out.2.2.2]; exact hul), List.getElem?_eq_getElem _⟩
                          obtain ⟨f, hfk⟩ : ∃ f, fs[u]? = some f := ⟨fs[u]'(by rw [HC4.out.2.2.2]; exact hul), List.getElem?_eq_getElem _⟩
                          have hb4u := hb46.trans (hbu.mono hb46.size)
                          have hg6r := Nat.lt_of_lt_of_le hg6 hbu.size
                          have hg4r := Nat.lt_of_lt_of_le hg4 hb4u.size
                          have hg3r := Nat.lt_of_lt_of_le hg3 hb4u.size
                          obtain ⟨a0, a1, a2, a3⟩ := ctCells_at _ _ _ hak
                          replace a0 := (hbu.cell (p := ⟨g6, u * 4, none⟩) hg6).trans (HC6.out.2.2.1 _ _ a0)
                          replace a1 := (hbu.cell (p := ⟨g6, u * 4 + 1, none⟩) hg6).trans (HC6.out.2.2.1 _ _ a1)
                          replace a2 := (hbu.cell (p := ⟨g6, u * 4 + 2, none⟩) hg6).trans (HC6.out.2.2.1 _ _ a2)
                          replace a3 := (hbu.cell (p := ⟨g6, u * 4 + 3, none⟩) hg6).trans (HC6.out.2.2.1 _ _ a3)
                          obtain ⟨f0, f1, f2, f3⟩ := ctCells_at _ _ _ hfk
                          replace f0 := (hb4u.cell (p := ⟨g4, u * 4, none⟩) hg4).trans (HC4.out.2.2.1 _ _ f0)
                          replace f1 := (hb4u.cell (p := ⟨g4, u * 4 + 1, none⟩) hg4).trans (HC4.out.2.2.1 _ _ f1)
                          replace f2 := (hb4u.cell (p := ⟨g4, u * 4 + 2, none⟩) hg4).trans (HC4.out.2.2.1 _ _ f2)
                          replace f3 := (hb4u.cell (p := ⟨g4, u * 4 + 3, none⟩) hg4).trans (HC4.out.2.2.1 _ _ f3)
                          have hE0 := (hb4u.cell (p := ⟨g3, 0, none⟩) hg3).trans H30.out
                          obtain ⟨ta, -, hoa⟩ := HC6.out.2.1 a (List.mem_of_getElem? hak)
                          obtain ⟨tf, -, hof⟩ := HC4.out.2.1 f (List.mem_of_getElem? hfk)
                          have hra := (RB.of_own hoa).keep hbu
                          have hrf := (RB.of_own hof).keep hb4u
                          have isa : a.is = (wb e.bs u false, u) := by
                            have h3 : (cs.map Pf.is)[u]? = some a.is := by rw [List.getElem?_map, hak]; rfl
                            rw [HC6.out.1] at h3
                            unfold cutsOf at h3
                            rw [List.getElem?_map, List.getElem?_range hul] at h3
                            injection h3 with h3
                            exact h3.symm
                          have isf : f.is = (wb e0.bs u false, u) := by
                            have h3 : (fs.map Pf.is)[u]? = some f.is := by rw [List.getElem?_map, hfk]; rfl
                            rw [HC4.out.1] at h3
                            unfold cutsOf at h3
                            rw [List.getElem?_map, List.getElem?_range hul] at h3
                            injection h3 with h3
                            exact h3.symm
                          obtain ⟨x, hx⟩ : ∃ x, x = decide (wb e.bs u false = wb e0.bs u false) := ⟨_, rfl⟩
                          have haf : decide ((a.bs, a.k) = (f.bs, f.k)) = x := by
                            rw [hx]
                            show decide (a.is = f.is) = _
                            rw [isa, isf]
                            simp
                          have hbe6 := (hRS.keep hb4u).2.2 e (List.mem_of_getElem? HE.out)
                          have hb06 := (hRS.keep hb4u).2.2 e0 HM0.out.1
                          have han : a.n ≤ 9223372036854775807 := by
                            rw [← hra.1, show a.bs = wb e.bs u false from congrArg Prod.fst isa, wb_len, hbe6.1.1]
                            omega
                          have rA : ∀ w', Below wr.heap.size wr w' → w'.cell? ⟨g6, u * 4, none⟩ = some (.slice a.a a.n a.c) ∧ w'.cell? ⟨g6, u * 4 + 1, none⟩ = some (.string ⟨#[]⟩) ∧ w'.cell? ⟨g6, u * 4 + 2, none⟩ = some (.int .i64 a.k) ∧ w'.cell? ⟨g6, u * 4 + 3, none⟩ = some (.bool true) := fun w' hb =>
                            ⟨(hb.cell (p := ⟨g6, u * 4, none⟩) hg6r).trans a0, (hb.cell (p := ⟨g6, u * 4 + 1, none⟩) hg6r).trans a1, (hb.cell (p := ⟨g6, u * 4 + 2, none⟩) hg6r).trans a2, (hb.cell (p := ⟨g6, u * 4 + 3, none⟩) hg6r).trans a3⟩
                          have rF : ∀ w', Below wr.heap.size wr w' → w'.cell? ⟨g4, u * 4, none⟩ = some (.slice f.a f.n f.c) ∧ w'.cell? ⟨g4, u * 4 + 1, none⟩ = some (.string ⟨#[]⟩) ∧ w'.cell? ⟨g4, u * 4 + 2, none⟩ = some (.int .i64 f.k) ∧ w'.cell? ⟨g4, u * 4 + 3, none⟩ = some (.bool true) := fun w' hb =>
                            ⟨(hb.cell (p := ⟨g4, u * 4, none⟩) hg4r).trans f0, (hb.cell (p := ⟨g4, u * 4 + 1, none⟩) hg4r).trans f1, (hb.cell (p := ⟨g4, u * 4 + 2, none⟩) hg4r).trans f2, (hb.cell (p := ⟨g4, u * 4 + 3, none⟩) hg4r).trans f3⟩
                          have rE : ∀ w', Below wr.heap.size wr w' → w'.cell? ⟨g3, 0, none⟩ = some (.slice e0.a e0.n e0.c) := fun w' hb => (hb.cell (p := ⟨g3, 0, none⟩) hg3r).trans hE0
                          have k1 : ∀ w', Below wr.heap.size wr w' → Calls Tryd.prog 34 #[.agg #[.slice a.a a.n a.c, .string ⟨#[]⟩, .int .i64 a.k], .agg #[.slice f.a f.n f.c, .string ⟨#[]⟩, .int .i64 f.k]] w' fun e w'' => e = .returned (.bool x) ∧ Below w'.heap.size w' w'' := fun w' hb => by
                            have := samePf_c a.a f.a a.n f.n a.c f.c a.bs f.bs a.k f.k w' (hra.keep hb) (hrf.keep hb) han
                            rw [haf] at this
                            exact this
                          have k2 : ∀ w' g c g' c', RB w' (some ⟨g, 0, none⟩) e.n (wb e.bs u false) → RB w' (some ⟨g', 0, none⟩) e0.n (wb e0.bs u false) → Calls Tryd.prog 35 #[.slice (some ⟨g, 0, none⟩) e.n c, .slice (some ⟨g', 0, none⟩) e0.n c'] w' fun e w'' => e = .returned (.bool x) ∧ Below w'.heap.size w' w'' := fun w' g c g' c' h1 h2 => by
                            have := equal_c (some ⟨g, 0, none⟩) (some ⟨g', 0, none⟩) e.n e0.n c c' (wb e.bs u false) (wb e0.bs u false) w' h1 h2 (by omega)
                            rw [← hx] at this
                            exact this
                          have q1 : (0 : Int) ≤ u ∧ (u : Int) < 8 * e0.n + 1 := by omega
                          have q2 : (0 : Int) < L ∧ 0 < L := by omega
                          have HQ := Lib.hid (And.intro q1 q2)
                          have hdr : Below wr.heap.size wr wr.drew := ⟨rfl, rfl, rfl, Nat.le_refl _, fun _ _ => rfl⟩
                          have hu8 : u ≤ 8 * e0.n := by omega
                          have hb4u' := Lib.hid hbu
                          have hbe7 := hbe6.1
                          have hb07 := hb06.1
                          clear q1 q2 a0 a1 a2 a3 f0 f1 f2 f3 hak hfk hoa hof hra hrf isa isf haf hx hE0 han hb4u hbe6 hb06
                          go_wp2_with fail
                          refine region_pick (Below wr.heap.size wr) [(0, false, none), (1, false, none), (2, false, none), (3, false, none), (4, false, none), (5, false, none), (6, false, none), (7, false, none), (8, false, none), (9, false, none), (10, false, none), (11, false, none), (12, false, none), (13, false, none), (14, false, none), (15, false, none), (16, false, none), (17, false, none), (18, false, none), (19, false, none), (20, false, none), (21, false, none), (22, false, none), (23, false, none), (24, false, none), (25, false, none), (26, false, none), (27, false, none), (29, false, none), (30, false, none), (31, false, none), (32, false, none), (28, true, none), (33, true, none), (34, false, none), (35, false, none), (36, false, none)] 37 (by kernel_rfl) (by kernel_rfl) (fun w w' h hb => h.trans (hb.mono h.size)) (hdr) ?_
                          simp only [pickOps, List.getElem?_cons_zero, List.getElem?_cons_succ]
                          repeat (first | (refine t_skip rfl ?_; (simp only [Act.put, List.setIfInBounds_toArray, List.set_cons_zero, List.set_cons_succ])) | (refine t_run ?_ rfl (fun w1 hw1 => ?_) ?_; rotate_left; (have r0 := (rA w1 hw1).1; have r1 := (rA w1 hw1).2.1; have r2 := (rA w1 hw1).2.2.1; have r3 := (rA w1 hw1).2.2.2; have r4 := (rF w1 hw1).1; have r5 := (rF w1 hw1).2.1; have r6 := (rF w1 hw1).2.2.1; have r7 := (rF w1 hw1).2.2.2; have r8 := rE w1 hw1; have r9 := HQ.out.1; have r10 := HQ.out.2.1; have r11 := HQ.out.2.2; go_simp; try (with_reducible rfl)); (simp only [Act.put, List.setIfInBounds_toArray, List.set_cons_zero, List.set_cons_succ])) | (refine t_call ?_ ?_ ?_ rfl (fun w1 hw1 => ?_) (fun w1 hw1 => ?_) ?_; rotate_left 3; (have r0 := (rA w1 hw1).1; have r1 := (rA w1 hw1).2.1; have r2 := (rA w1 hw1).2.2.1; have r3 := (rA w1 hw1).2.2.2; have r4 := (rF w1 hw1).1; have r5 := (rF w1 hw1).2.1; have r6 := (rF w1 hw1).2.2.1; have r7 := (rF w1 hw1).2.2.2; have r8 := rE w1 hw1; have r9 := HQ.out.1; have r10 := HQ.out.2.1; have r11 := HQ.out.2.2; go_simp; refine ⟨?_, ?_⟩ <;> with_reducible rfl); (first | (go_at_call 34; (with_reducible refine (k1 w1 hw1).mono ?_); rintro e w2 ⟨rfl, hb⟩; refine ⟨?_, hb⟩; with_reducible rfl) | (go_at_call 34; (refine (k1 w1 hw1).mono ?_); rintro e w2 ⟨rfl, hb⟩; refine ⟨?_, hb⟩; with_reducible rfl)); (simp only [Act.put, List.setIfInBounds_toArray, List.set_cons_zero, List.set_cons_succ])))
                          refine t_fresh ?_ ?_ (fun v w' => OwnB 0 e.n (wb e.bs u false) v w') (by rfl) (fun w1 hw1 => ?_) (fun v w w' h hb => h.keep hb) (fun w1 hw1 => ?_) ?_
                          rotate_left 2
                          (go_simp; refine ⟨?_, ?_⟩ <;> with_reducible rfl)
                          (go_at_call 36; (with_reducible refine (withBits_c e.a e.n e.c e.bs u false w1 (hbe7.keep hw1) hisl (by have := HEN.out; omega)).mono ?_); rintro e w2 ⟨v, rfl, ⟨g9, c9, rfl, hown9⟩, hb9⟩; exact ⟨_, rfl, ⟨g9, c9, rfl, own_mono hown9 (Nat.zero_le _)⟩, hb9⟩)
                          rintro v8 ⟨-, -, g9, c9, rfl, -⟩
                          (simp only [Act.put, List.setIfInBounds_toArray, List.set_cons_zero, List.set_cons_succ])
                          refine t_fresh ?_ ?_ (fun v w' => OwnB 0 e0.n (wb e0.bs u false) v w') (by rfl) (fun w1 hw1 => ?_) (fun v w w' h hb => h.keep hb) (fun w1 hw1 => ?_) ?_
                          rotate_left 2
                          (go_simp; refine ⟨?_, ?_⟩ <;> with_reducible rfl)
                          (go_at_call 36; (with_reducible refine (withBits_c e0.a e0.n e0.c e0.bs u false w1 (hb07.keep hw1.1) his0 (by omega)).mono ?_); rintro e w2 ⟨v, rfl, ⟨g10, c10, rfl, hown10⟩, hb10⟩; exact ⟨_, rfl, ⟨g10, c10, rfl, own_mono hown10 (Nat.zero_le _)⟩, hb10⟩)
                          rintro v9 ⟨-, -, g10, c10, rfl, -⟩
                          (simp only [Act.put, List.setIfInBounds_toArray, List.set_cons_zero, List.set_cons_succ])
                          repeat (first | (refine t_skip rfl ?_; (simp only [Act.put, List.setIfInBounds_toArray, List.set_cons_zero, List.set_cons_succ])) | (refine t_run ?_ rfl (fun w1 hw1 => ?_) ?_; rotate_left; (go_simp; try (with_reducible rfl)); (simp only [Act.put, List.setIfInBounds_toArray, List.set_cons_zero, List.set_cons_succ])) | (refine t_call ?_ ?_ ?_ rfl (fun w1 hw1 => ?_) (fun w1 hw1 => ?_) ?_; rotate_left 3; (go_simp; refine ⟨?_, ?_⟩ <;> with_reducible rfl); (first | (go_at_call 35; (with_reducible refine (k2 w1 g9 c9 g10 c10 (RB.of_own hw1.1.2.own) (RB.of_own hw1.2.own)).mono ?_); rintro e w2 ⟨rfl, hb⟩; refine ⟨?_, hb⟩; with_reducible rfl) | (go_at_call 35; (refine (k2 w1 g9 c9 g10 c10 (RB.of_own hw1.1.2.own) (RB.of_own hw1.2.own)).mono ?_); rintro e w2 ⟨rfl, hb⟩; refine ⟨?_, hb⟩; with_reducible rfl)); (simp only [Act.put, List.setIfInBounds_toArray, List.set_cons_zero, List.set_cons_succ])))
                          intro w9 ⟨⟨hw9, _⟩, _⟩
                          simp only [List.drop_succ_cons, List.drop_zero]
                          have hb9 := hb4u'.out.trans (hw9.mono hb4u'.out.size)
                          clear rA rF rE k1 k2 hdr
                          go_wp2
                          go_roundw
                          case rel => exact ⟨u + 1, by omega, by go_num, hb9⟩
                          case measure => simp [intOf]; omega
                        · obtain rfl : u = 8 * e0.n + 1 := by omega
                          have hb4u := hb46.trans (hbu.mono hb46.size)
                          have hC2 := HCI.out.step HE.out hkC HK.out HM.out
                          have HC2 := Lib.hid hC2
                          clear hC2
                          go_wp2
                          go_roundw
                          case rel => exact ⟨t + 1, k, by omega, by go_num, rfl, HC2.out, hb4u⟩
                          case measure => simp [intOf]; omega
                  · have q1 : decide (k < C) = false ∧ decide ((k : Int) < (C : Int)) = false := by simp; omega
                    have HQ := Lib.hid q1
                    have HM := Lib.hid (show k = C ∨ bitAt e.bs k ≠ bitAt e0.bs k from .inl (by omega))
                    clear q1
                    go_wp2_with fail
                    refine region_pick (Below wr.heap.size wr) [(0, false, none), (1, false, none), (2, false, none), (3, false, none), (4, false, none), (5, false, none), (6, false, none), (7, false, none), (8, false, none), (9, false, none), (10, false, none), (11, false, none), (12, false, none), (13, false, none)] 14 (by kernel_rfl) (by kernel_rfl) (fun w w' h hb => h.trans (hb.mono h.size)) (hdr) ?_
                    simp only [pickOps, List.getElem?_cons_zero, List.getElem?_cons_succ]
                    repeat (first | (refine t_skip rfl ?_; (simp only [Act.put, List.setIfInBounds_toArray, List.set_cons_zero, List.set_cons_succ])) | (refine t_run ?_ rfl (fun w1 hw1 => ?_) ?_; rotate_left; (have r0 := HQ.out.1; have r1 := HQ.out.2; go_simp; try (with_reducible rfl)); (simp only [Act.put, List.setIfInBounds_toArray, List.set_cons_zero, List.set_cons_succ])))
                    intro w5' hw5
                    simp only [List.drop_succ_cons, List.drop_zero]
                    have hb5' := hbb.trans (hw5.mono hbb.size)
                    clear rE hdr HQ hw5 hbb hlt
                    have hbX := hb5'
                    have hbe6 := (hRS.keep hbX).2.2 e (List.mem_of_getElem? HE.out)
                    have hrun6 := hrun.keep hbX
                    have hz6 := hz4.keep hbX
                    go_wp2_with fail
                    refine (plain_c e.a e.n e.c e.bs w5' hbe6.1 hbe6.2.1 hbe6.2.2).mono ?_
                    rintro e1 w5 ⟨A5, c5, rfl, hown5, hb5⟩
                    have hr5 := RB.of_own hown5
                    have hb45 := hbX.trans (hb5.mono hbX.size)
                    have hru5 := hrun6.keep hb5
                    have hz5 := hz6.keep hb5
                    clear hown5 hrun6 hz6 hb5 hbX hbe6
                    go_wp2_with fail
                    refine (prefixesOf_c A5 e.n c5 e.bs A8 (8 * e0.n + 1) _ (List.range (8 * e0.n + 1)) z w5 hz5 hr5 (by rw [hr5.1]; exact hisl) hru5 (fun x hx => by rw [hr5.1, HEN.out, ← HLB.out]; exact HRA.out x hx) (by omega)).mono ?_
                    rintro e1 w6 ⟨A6, c6, cs, rfl, hown6, hmap6, hin6, hb6⟩
                    have hcl : cs.length = 8 * e0.n + 1 := by have := congrArg List.length hmap6; unfold cutsOf at this; simp only [List.length_map, List.length_range] at this; exact this
                    rw [hcl] at hown6 ⊢
                    have hb46 := hb45.trans (hb6.mono hb45.size)
                    obtain ⟨g6, hA6, hg6, hc6⟩ := own_some hown6 (by omega)
                    subst hA6
                    have HC6 := Lib.hid (And.intro hmap6 (And.intro hin6 (And.intro hc6 hcl)))
                    clear hmap6 hin6 hown6 hcl hr5 hru5 hz5 hb45 hb6 hc6
                    obtain ⟨wo, hwo⟩ : ∃ wo, wo = wr := ⟨_, rfl⟩
                    subst hwo
                    go_wp2_with fail
                    go_loopw [105] (fun i wr => ∃ (u : Nat), u ≤ 8 * e0.n + 1 ∧ i = .int .i64 u ∧ Below w6.heap.size w6 wr) (fun i _ => 8 * e0.n + 1 - (intOf i).toNat)
                    case atStart => exact ⟨0, Nat.zero_le _, rfl, Below.refl _ _⟩
                    case round =>
                      obtain ⟨u, hu, rfl, hbu⟩ := hrel
                      by_cases hul : u < 8 * e0.n + 1
                      · obtain ⟨a, hak⟩ : ∃ a, cs[u]? = some a := ⟨cs[u]'(by rw [HC6.out.2.2.2]; exact hul), List.getElem?_eq_getElem _⟩
                        obtain ⟨f, hfk⟩ : ∃ f, fs[u]? = some f := ⟨fs[u]'(by rw [HC4.out.2.2.2]; exact hul), List.getElem?_eq_getElem _⟩
                        have hb4u := hb46.trans (hbu.mono hb46.size)
                        have hg6r := Nat.lt_of_lt_of_le hg6 hbu.size
                        have hg4r := Nat.lt_of_lt_of_le hg4 hb4u.size
                        have hg3r := Nat.lt_of_lt_of_le hg3 hb4u.size
                        obtain ⟨a0, a1, a2, a3⟩ := ctCells_at _ _ _ hak
                        replace a0 := (hbu.cell (p := ⟨g6, u * 4, none⟩) hg6).trans (HC6.out.2.2.1 _ _ a0)
                        replace a1 := (hbu.cell (p := ⟨g6, u * 4 + 1, none⟩) hg6).trans (HC6.out.2.2.1 _ _ a1)
                        replace a2 := (hbu.cell (p := ⟨g6, u * 4 + 2, none⟩) hg6).trans (HC6.out.2.2.1 _ _ a2)
                        replace a3 := (hbu.cell (p := ⟨g6, u * 4 + 3, none⟩) hg6).trans (HC6.out.2.2.1 _ _ a3)
                        obtain ⟨f0, f1, f2, f3⟩ := ctCells_at _ _ _ hfk
                        replace f0 := (hb4u.cell (p := ⟨g4, u * 4, none⟩) hg4).trans (HC4.out.2.2.1 _ _ f0)
                        replace f1 := (hb4u.cell (p := ⟨g4, u * 4 + 1, none⟩) hg4).trans (HC4.out.2.2.1 _ _ f1)
                        replace f2 := (hb4u.cell (p := ⟨g4, u * 4 + 2, none⟩) hg4).trans (HC4.out.2.2.1 _ _ f2)
                        replace f3 := (hb4u.cell (p := ⟨g4, u * 4 + 3, none⟩) hg4).trans (HC4.out.2.2.1 _ _ f3)
                        have hE0 := (hb4u.cell (p := ⟨g3, 0, none⟩) hg3).trans H30.out
                        obtain ⟨ta, -, hoa⟩ := HC6.out.2.1 a (List.mem_of_getElem? hak)
                        obtain ⟨tf, -, hof⟩ := HC4.out.2.1 f (List.mem_of_getElem? hfk)
                        have hra := (RB.of_own hoa).keep hbu
                        have hrf := (RB.of_own hof).keep hb4u
                        have isa : a.is = (wb e.bs u false, u) := by
                          have h3 : (cs.map Pf.is)[u]? = some a.is := by rw [List.getElem?_map, hak]; rfl
                          rw [HC6.out.1] at h3
                          unfold cutsOf at h3
                          rw [List.getElem?_map, List.getElem?_range hul] at h3
                          injection h3 with h3
                          exact h3.symm
                        have isf : f.is = (wb e0.bs u false, u) := by
                          have h3 : (fs.map Pf.is)[u]? = some f.is := by rw [List.getElem?_map, hfk]; rfl
                          rw [HC4.out.1] at h3
                          unfold cutsOf at h3
                          rw [List.getElem?_map, List.getElem?_range hul] at h3
                          injection h3 with h3
                          exact h3.symm
                        obtain ⟨x, hx⟩ : ∃ x, x = decide (wb e.bs u false = wb e0.bs u false) := ⟨_, rfl⟩
                        have haf : decide ((a.bs, a.k) = (f.bs, f.k)) = x := by
                          rw [hx]
                          show decide (a.is = f.is) = _
                          rw [isa, isf]
                          simp
                        have hbe6 := (hRS.keep hb4u).2.2 e (List.mem_of_getElem? HE.out)
                        have hb06 := (hRS.keep hb4u).2.2 e0 HM0.out.1
                        have han : a.n ≤ 9223372036854775807 := by
                          rw [← hra.1, show a.bs = wb e.bs u false from congrArg Prod.fst isa, wb_len, hbe6.1.1]
                          omega
                        have rA : ∀ w', Below wr.heap.size wr w' → w'.cell? ⟨g6, u * 4, none⟩ = some (.slice a.a a.n a.c) ∧ w'.cell? ⟨g6, u * 4 + 1, none⟩ = some (.string ⟨#[]⟩) ∧ w'.cell? ⟨g6, u * 4 + 2, none⟩ = some (.int .i64 a.k) ∧ w'.cell? ⟨g6, u * 4 + 3, none⟩ = some (.bool true) := fun w' hb =>
                          ⟨(hb.cell (p := ⟨g6, u * 4, none⟩) hg6r).trans a0, (hb.cell (p := ⟨g6, u * 4 + 1, none⟩) hg6r).trans a1, (hb.cell (p := ⟨g6, u * 4 + 2, none⟩) hg6r).trans a2, (hb.cell (p := ⟨g6, u * 4 + 3, none⟩) hg6r).trans a3⟩
                        have rF : ∀ w', Below wr.heap.size wr w' → w'.cell? ⟨g4, u * 4, none⟩ = some (.slice f.a f.n f.c) ∧ w'.cell? ⟨g4, u * 4 + 1, none⟩ = some (.string ⟨#[]⟩) ∧ w'.cell? ⟨g4, u * 4 + 2, none⟩ = some (.int .i64 f.k) ∧ w'.cell? ⟨g4, u * 4 + 3, none⟩ = some (.bool true) := fun w' hb =>
                          ⟨(hb.cell (p := ⟨g4, u * 4, none⟩) hg4r).trans f0, (hb.cell (p := ⟨g4, u * 4 + 1, none⟩) hg4r).trans f1, (hb.cell (p := ⟨g4, u * 4 + 2, none⟩) hg4r).trans f2, (hb.cell (p := ⟨g4, u * 4 + 3, none⟩) hg4r).trans f3⟩
                        have rE : ∀ w', Below wr.heap.size wr w' → w'.cell? ⟨g3, 0, none⟩ = some (.slice e0.a e0.n e0.c) := fun w' hb => (hb.cell (p := ⟨g3, 0, none⟩) hg3r).trans hE0
                        have k1 : ∀ w', Below wr.heap.size wr w' → Calls Tryd.prog 34 #[.agg #[.slice a.a a.n a.c, .string ⟨#[]⟩, .int .i64 a.k], .agg #[.slice f.a f.n f.c, .string ⟨#[]⟩, .int .i64 f.k]] w' fun e w'' => e = .returned (.bool x) ∧ Below w'.heap.size w' w'' := fun w' hb => by
                          have := samePf_c a.a f.a a.n f.n a.c f.c a.bs f.bs a.k f.k w' (hra.keep hb) (hrf.keep hb) han
                          rw [haf] at this
                          exact this
                        have k2 : ∀ w' g c g' c', RB w' (some ⟨g, 0, none⟩) e.n (wb e.bs u false) → RB w' (some ⟨g', 0, none⟩) e0.n (wb e0.bs u false) → Calls Tryd.prog 35 #[.slice (some ⟨g, 0, none⟩) e.n c, .slice (some ⟨g', 0, none⟩) e0.n c'] w' fun e w'' => e = .returned (.bool x) ∧ Below w'.heap.size w' w'' := fun w' g c g' c' h1 h2 => by
                          have := equal_c (some ⟨g, 0, none⟩) (some ⟨g', 0, none⟩) e.n e0.n c c' (wb e.bs u false) (wb e0.bs u false) w' h1 h2 (by omega)
                          rw [← hx] at this
                          exact this
                        have q1 : (0 : Int) ≤ u ∧ (u : Int) < 8 * e0.n + 1 := by omega
                        have q2 : (0 : Int) < L ∧ 0 < L := by omega
                        have HQ := Lib.hid (And.intro q1 q2)
                        have hdr : Below wr.heap.size wr wr.drew := ⟨rfl, rfl, rfl, Nat.le_refl _, fun _ _ => rfl⟩
                        have hu8 : u ≤ 8 * e0.n := by omega
                        have hb4u' := Lib.hid hbu
                        have hbe7 := hbe6.1
                        have hb07 := hb06.1
                        clear q1 q2 a0 a1 a2 a3 f0 f1 f2 f3 hak hfk hoa hof hra hrf isa isf haf hx hE0 han hb4u hbe6 hb06
                        go_wp2_with fail
                        refine region_pick (Below wr.heap.size wr) [(0, false, none), (1, false, none), (2, false, none), (3, false, none), (4, false, none), (5, false, none), (6, false, none), (7, false, none), (8, false, none), (9, false, none), (10, false, none), (11, false, none), (12, false, none), (13, false, none), (14, false, none), (15, false, none), (16, false, none), (17, false, none), (18, false, none), (19, false, none), (20, false, none), (21, false, none), (22, false, none), (23, false, none), (24, false, none), (25, false, none), (26, false, none), (27, false, none), (29, false, none), (30, false, none), (31, false, none), (32, false, none), (28, true, none), (33, true, none), (34, false, none), (35, false, none), (36, false, none)] 37 (by kernel_rfl) (by kernel_rfl) (fun w w' h hb => h.trans (hb.mono h.size)) (hdr) ?_
                        simp only [pickOps, List.getElem?_cons_zero, List.getElem?_cons_succ]
                        repeat (first | (refine t_skip rfl ?_; (simp only [Act.put, List.setIfInBounds_toArray, List.set_cons_zero, List.set_cons_succ])) | (refine t_run ?_ rfl (fun w1 hw1 => ?_) ?_; rotate_left; (have r0 := (rA w1 hw1).1; have r1 := (rA w1 hw1).2.1; have r2 := (rA w1 hw1).2.2.1; have r3 := (rA w1 hw1).2.2.2; have r4 := (rF w1 hw1).1; have r5 := (rF w1 hw1).2.1; have r6 := (rF w1 hw1).2.2.1; have r7 := (rF w1 hw1).2.2.2; have r8 := rE w1 hw1; have r9 := HQ.out.1; have r10 := HQ.out.2.1; have r11 := HQ.out.2.2; go_simp; try (with_reducible rfl)); (simp only [Act.put, List.setIfInBounds_toArray, List.set_cons_zero, List.set_cons_succ])) | (refine t_call ?_ ?_ ?_ rfl (fun w1 hw1 => ?_) (fun w1 hw1 => ?_) ?_; rotate_left 3; (have r0 := (rA w1 hw1).1; have r1 := (rA w1 hw1).2.1; have r2 := (rA w1 hw1).2.2.1; have r3 := (rA w1 hw1).2.2.2; have r4 := (rF w1 hw1).1; have r5 := (rF w1 hw1).2.1; have r6 := (rF w1 hw1).2.2.1; have r7 := (rF w1 hw1).2.2.2; have r8 := rE w1 hw1; have r9 := HQ.out.1; have r10 := HQ.out.2.1; have r11 := HQ.out.2.2; go_simp; refine ⟨?_, ?_⟩ <;> with_reducible rfl); (first | (go_at_call 34; (with_reducible refine (k1 w1 hw1).mono ?_); rintro e w2 ⟨rfl, hb⟩; refine ⟨?_, hb⟩; with_reducible rfl) | (go_at_call 34; (refine (k1 w1 hw1).mono ?_); rintro e w2 ⟨rfl, hb⟩; refine ⟨?_, hb⟩; with_reducible rfl)); (simp only [Act.put, List.setIfInBounds_toArray, List.set_cons_zero, List.set_cons_succ])))
                        refine t_fresh ?_ ?_ (fun v w' => OwnB 0 e.n (wb e.bs u false) v w') (by rfl) (fun w1 hw1 => ?_) (fun v w w' h hb => h.keep hb) (fun w1 hw1 => ?_) ?_
                        rotate_left 2
                        (go_simp; refine ⟨?_, ?_⟩ <;> with_reducible rfl)
                        (go_at_call 36; (with_reducible refine (withBits_c e.a e.n e.c e.bs u false w1 (hbe7.keep hw1) hisl (by have := HEN.out; omega)).mono ?_); rintro e w2 ⟨v, rfl, ⟨g9, c9, rfl, hown9⟩, hb9⟩; exact ⟨_, rfl, ⟨g9, c9, rfl, own_mono hown9 (Nat.zero_le _)⟩, hb9⟩)
                        rintro v8 ⟨-, -, g9, c9, rfl, -⟩
                        (simp only [Act.put, List.setIfInBounds_toArray, List.set_cons_zero, List.set_cons_succ])
                        refine t_fresh ?_ ?_ (fun v w' => OwnB 0 e0.n (wb e0.bs u false) v w') (by rfl) (fun w1 hw1 => ?_) (fun v w w' h hb => h.keep hb) (fun w1 hw1 => ?_) ?_
                        rotate_left 2
                        (go_simp; refine ⟨?_, ?_⟩ <;> with_reducible rfl)
                        (go_at_call 36; (with_reducible refine (withBits_c e0.a e0.n e0.c e0.bs u false w1 (hb07.keep hw1.1) his0 (by omega)).mono ?_); rintro e w2 ⟨v, rfl, ⟨g10, c10, rfl, hown10⟩, hb10⟩; exact ⟨_, rfl, ⟨g10, c10, rfl, own_mono hown10 (Nat.zero_le _)⟩, hb10⟩)
                        rintro v9 ⟨-, -, g10, c10, rfl, -⟩
                        (simp only [Act.put, List.setIfInBounds_toArray, List.set_cons_zero, List.set_cons_succ])
                        repeat (first | (refine t_skip rfl ?_; (simp only [Act.put, List.setIfInBounds_toArray, List.set_cons_zero, List.set_cons_succ])) | (refine t_run ?_ rfl (fun w1 hw1 => ?_) ?_; rotate_left; (go_simp; try (with_reducible rfl)); (simp only [Act.put, List.setIfInBounds_toArray, List.set_cons_zero, List.set_cons_succ])) | (refine t_call ?_ ?_ ?_ rfl (fun w1 hw1 => ?_) (fun w1 hw1 => ?_) ?_; rotate_left 3; (go_simp; refine ⟨?_, ?_⟩ <;> with_reducible rfl); (first | (go_at_call 35; (with_reducible refine (k2 w1 g9 c9 g10 c10 (RB.of_own hw1.1.2.own) (RB.of_own hw1.2.own)).mono ?_); rintro e w2 ⟨rfl, hb⟩; refine ⟨?_, hb⟩; with_reducible rfl) | (go_at_call 35; (refine (k2 w1 g9 c9 g10 c10 (RB.of_own hw1.1.2.own) (RB.of_own hw1.2.own)).mono ?_); rintro e w2 ⟨rfl, hb⟩; refine ⟨?_, hb⟩; with_reducible rfl)); (simp only [Act.put, List.setIfInBounds_toArray, List.set_cons_zero, List.set_cons_succ])))
                        intro w9 ⟨⟨hw9, _⟩, _⟩
                        simp only [List.drop_succ_cons, List.drop_zero]
                        have hb9 := hb4u'.out.trans (hw9.mono hb4u'.out.size)
                        clear rA rF rE k1 k2 hdr
                        go_wp2
                        go_roundw
                        case rel => exact ⟨u + 1, by omega, by go_num, hb9⟩
                        case measure => simp [intOf]; omega
                      · obtain rfl : u = 8 * e0.n + 1 := by omega
                        have hb4u := hb46.trans (hbu.mono hb46.size)
                        have hC2 := HCI.out.step HE.out hkC HK.out HM.out
                        have HC2 := Lib.hid hC2
                        clear hC2
                        go_wp2
                        go_roundw
                        case rel => exact ⟨t + 1, k, by omega, by go_num, rfl, HC2.out, hb4u⟩
                        case measure => simp [intOf]; omega
              · obtain rfl : t = L := by omega
                have hCI := HCI.out
                rw [HL1.out] at hCI
                obtain ⟨f, hfk⟩ : ∃ f, fs[C]? = some f := ⟨fs[C]'(by rw [HC4.out.2.2.2]; omega), List.getElem?_eq_getElem _⟩
                have hg4r := Nat.lt_of_lt_of_le hg4 hbb.size
                have hg3r := Nat.lt_of_lt_of_le hg3 hbb.size
                obtain ⟨f0, f1, f2, -⟩ := ctCells_at _ _ _ hfk
                replace f0 := (hbb.cell (p := ⟨g4, C * 4, none⟩) hg4).trans (HC4.out.2.2.1 _ _ f0)
                replace f1 := (hbb.cell (p := ⟨g4, C * 4 + 1, none⟩) hg4).trans (HC4.out.2.2.1 _ _ f1)
                replace f2 := (hbb.cell (p := ⟨g4, C * 4 + 2, none⟩) hg4).trans (HC4.out.2.2.1 _ _ f2)
                have hE0 := (hbb.cell (p := ⟨g3, 0, none⟩) hg3).trans H30.out
                obtain ⟨tf, -, hof⟩ := HC4.out.2.1 f (List.mem_of_getElem? hfk)
                have hrf := (RB.of_own hof).keep hbb
                have isf : f.is = (wb e0.bs C false, C) := by
                  have h3 : (fs.map Pf.is)[C]? = some f.is := by rw [List.getElem?_map, hfk]; rfl
                  rw [HC4.out.1] at h3
                  unfold cutsOf at h3
                  rw [List.getElem?_map, List.getElem?_range (show C < 8 * e0.n + 1 by omega)] at h3
                  injection h3 with h3
                  exact h3.symm
                have hfb : f.bs = wb e0.bs C false := congrArg Prod.fst isf
                have hfk' : f.k = C := congrArg Prod.snd isf
                have hlens : ∀ y ∈ es', y.bs.length = e0.bs.length := fun y hy => by
                  rw [(hRS.2.2 y hy).1.1, HLB.out]; exact (HM0.out.2.2 y hy).symm
                have hfl : isLen f.bs.length ∧ f.k ≤ 8 * f.bs.length := by
                  rw [hfb, wb_len, HLB.out, hfk']
                  exact ⟨his0, by omega⟩
                have hal1 : (es'.all fun y => inP f.bs f.k y.bs) = true := by rw [hfb, hfk']; exact hCI.allIn hlens
                have hmany : manyIn ([f].map Pf.is) e0.bs = 1 := by
                  show manyIn [(f.bs, f.k)] e0.bs = 1
                  rw [manyIn_one, hfb, hfk', if_pos ((inP_bits hCI.le).2 ⟨rfl, fun _ _ => rfl⟩)]
                have rF : ∀ w', Below wr.heap.size wr w' → w'.cell? ⟨g4, C * 4, none⟩ = some (.slice f.a f.n f.c) ∧ w'.cell? ⟨g4, C * 4 + 1, none⟩ = some (.string ⟨#[]⟩) ∧ w'.cell? ⟨g4, C * 4 + 2, none⟩ = some (.int .i64 f.k) := fun w' hb =>
                  ⟨(hb.cell (p := ⟨g4, C * 4, none⟩) hg4r).trans f0, (hb.cell (p := ⟨g4, C * 4 + 1, none⟩) hg4r).trans f1, (hb.cell (p := ⟨g4, C * 4 + 2, none⟩) hg4r).trans f2⟩
                have rE : ∀ w', Below wr.heap.size wr w' → w'.cell? ⟨g3, 0, none⟩ = some (.slice e0.a e0.n e0.c) := fun w' hb => (hb.cell (p := ⟨g3, 0, none⟩) hg3r).trans hE0
                have hzr := hz4.keep hbb
                have hRSr := hRS.keep hbb
                have hb0r := hRSr.2.2 e0 HM0.out.1
                have k1 : ∀ w' g, Below wr.heap.size wr w' → LitRow 0 29 3 1 [.slice f.a f.n f.c, .string ⟨#[]⟩, .int .i64 f.k] (.slice (some ⟨g, 0, none⟩) 1 1) w' → Calls Tryd.prog 20 #[.slice (some ⟨g, 0, none⟩) 1 1, .slice e0.a e0.n e0.c] w' fun e w'' => e = .returned (.int .i64 1) ∧ Below w'.heap.size w' w'' := fun w' g hb hrow => by
                  have := howMany_c (some ⟨g, 0, none⟩) e0.a 1 e0.n 1 e0.c [f] e0.bs z w' (hzr.keep hb) ⟨rfl, RC.of_own hrow.own, fun y hy => by simp at hy; subst hy; exact hrf.keep hb⟩ (fun y hy => by simp at hy; subst hy; exact hfl) (by omega) (hb0r.1.keep hb) hb0r.2.1 hb0r.2.2
                  rw [hmany] at this
                  exact this
                have k2 : ∀ w', Below wr.heap.size wr w' → Calls Tryd.prog 37 #[.agg #[.slice f.a f.n f.c, .string ⟨#[]⟩, .int .i64 f.k], .slice (some ⟨g3, 0, none⟩) t c3] w' fun e w'' => e = .returned (.bool true) ∧ Below w'.heap.size w' w'' := fun w' hb => by
                  have := allIn_c f.a (some ⟨g3, 0, none⟩) f.n t f.c c3 f.bs f.k es' z w' (hzr.keep hb) (hrf.keep hb) hfl.1 hfl.2 (hRSr.keep hb) (by omega)
                  rw [hal1] at this
                  exact this
                have hdr : Below wr.heap.size wr wr.drew := ⟨rfl, rfl, rfl, Nat.le_refl _, fun _ _ => rfl⟩
                have q1 : (0 : Int) ≤ C ∧ (C : Int) < 8 * e0.n + 1 := by omega
                have q2 : (0 : Int) < t ∧ 0 < t := by omega
                have HQ := Lib.hid (And.intro q1 q2)
                clear q1 q2 f0 f1 f2 hE0 hfk hof isf hal1 hmany
                by_cases hC : C = 8 * e0.n
                · have q3 : ((C : Int) == 8 * e0.n) = true ∧ (C == 8 * e0.n) = true := by simp; omega
                  have HQ3 := Lib.hid q3
                  clear q3 hC hCI hfb hfk'
                  go_wp2_with fail
                  refine region_pick (Below wr.heap.size wr) [(0, false, none), (1, false, none), (2, false, none), (3, false, none), (4, false, none), (6, false, none), (7, false, none), (8, false, none), (5, true, none), (9, false, none), (10, false, none), (11, false, none), (12, false, none), (13, false, none), (14, false, none), (15, false, none), (16, false, none), (17, false, none), (18, false, none), (19, false, none), (20, false, none), (21, false, none), (22, false, none), (23, false, none), (24, false, none), (25, false, none), (26, false, none), (27, false, none), (28, false, none), (29, false, none), (30, false, none), (31, false, none), (32, false, none), (33, false, none), (34, false, none), (35, false, none), (36, false, none)] 37 (by kernel_rfl) (by kernel_rfl) (fun w w' h hb => h.trans (hb.mono h.size)) (hdr) ?_
                  simp only [pickOps, List.getElem?_cons_zero, List.getElem?_cons_succ]
                  repeat (first | (refine t_skip rfl ?_; (simp only [Act.put, List.setIfInBounds_toArray, List.set_cons_zero, List.set_cons_succ])) | (refine t_run ?_ rfl (fun w1 hw1 => ?_) ?_; rotate_left; (have r0 := (rF w1 hw1).1; have r1 := (rF w1 hw1).2.1; have r2 := (rF w1 hw1).2.2; have r3 := HQ.out.1; have r4 := rE w1 hw1; have r5 := HQ.out.2.1; have r6 := HQ.out.2.2; go_simp; try (with_reducible rfl)); (simp only [Act.put, List.setIfInBounds_toArray, List.set_cons_zero, List.set_cons_succ])))
                  refine t_new (fun v w' => LitRow 0 29 3 1 [.slice f.a f.n f.c, .string ⟨#[]⟩, .int .i64 f.k] v w') (by rfl) (fun v w w' h hb => h.keep hb) (fun w1 hw1 => ?_) ?_
                  refine ⟨?_, ?_, ?_, ?_, ?_⟩
                  rotate_left 2
                  (go_simp; first | (refine ⟨?_, ?_⟩ <;> with_reducible rfl) | with_reducible rfl)
                  exact ⟨_, rfl, own_lit w1 #[.slice f.a f.n f.c, .string ⟨#[]⟩, .int .i64 f.k] _ 3 1 _ (Nat.zero_le _) rfl (by omega)⟩
                  exact (Below.refl _ _).alloc (Nat.le_refl _) _
                  rintro v9 ⟨-, -, g9, rfl, -⟩
                  (simp only [Act.put, List.setIfInBounds_toArray, List.set_cons_zero, List.set_cons_succ])
                  repeat (first | (refine t_skip rfl ?_; (simp only [Act.put, List.setIfInBounds_toArray, List.set_cons_zero, List.set_cons_succ])) | (refine t_run ?_ rfl (fun w1 hw1 => ?_) ?_; rotate_left; (have r0 := (rF w1 hw1.1).1; have r1 := (rF w1 hw1.1).2.1; have r2 := (rF w1 hw1.1).2.2; have r3 := rE w1 hw1.1; have r4 := HQ.out.1; have r5 := HQ.out.2.1; have r6 := HQ.out.2.2; have r7 := HQ3.out.1; have r8 := HQ3.out.2; go_simp; try (with_reducible rfl)); (simp only [Act.put, List.setIfInBounds_toArray, List.set_cons_zero, List.set_cons_succ])) | (refine t_call ?_ ?_ ?_ rfl (fun w1 hw1 => ?_) (fun w1 hw1 => ?_) ?_; rotate_left 3; (have r0 := (rF w1 hw1.1).1; have r1 := (rF w1 hw1.1).2.1; have r2 := (rF w1 hw1.1).2.2; have r3 := rE w1 hw1.1; have r4 := HQ.out.1; have r5 := HQ.out.2.1; have r6 := HQ.out.2.2; have r7 := HQ3.out.1; have r8 := HQ3.out.2; go_simp; refine ⟨?_, ?_⟩ <;> with_reducible rfl); (first | (go_at_call 20; (with_reducible refine (k1 w1 g9 hw1.1 hw1.2).mono ?_); rintro e w2 ⟨rfl, hb⟩; refine ⟨?_, hb⟩; with_reducible rfl) | (go_at_call 37; (with_reducible refine (k2 w1 hw1.1).mono ?_); rintro e w2 ⟨rfl, hb⟩; refine ⟨?_, hb⟩; with_reducible rfl) | (go_at_call 20; (refine (k1 w1 g9 hw1.1 hw1.2).mono ?_); rintro e w2 ⟨rfl, hb⟩; refine ⟨?_, hb⟩; with_reducible rfl) | (go_at_call 37; (refine (k2 w1 hw1.1).mono ?_); rintro e w2 ⟨rfl, hb⟩; refine ⟨?_, hb⟩; with_reducible rfl)); (simp only [Act.put, List.setIfInBounds_toArray, List.set_cons_zero, List.set_cons_succ])))
                  intro w9 ⟨hw9, _⟩
                  simp only [List.drop_succ_cons, List.drop_zero]
                  have hb9 := hb04.trans ((hbb.trans (hw9.mono hbb.size)).mono hb04.size)
                  go_wp2
                  go_returns
                  exact ⟨rfl, hb9⟩
                · have hC1 : C + 1 ≤ 8 * e0.n := by omega
                  obtain ⟨h, hhk⟩ : ∃ h, fs[C + 1]? = some h := ⟨fs[C + 1]'(by rw [HC4.out.2.2.2]; omega), List.getElem?_eq_getElem _⟩
                  obtain ⟨h0, h1, h2, -⟩ := ctCells_at _ _ _ hhk
                  replace h0 := (hbb.cell (p := ⟨g4, (C + 1) * 4, none⟩) hg4).trans (HC4.out.2.2.1 _ _ h0)
                  replace h1 := (hbb.cell (p := ⟨g4, (C + 1) * 4 + 1, none⟩) hg4).trans (HC4.out.2.2.1 _ _ h1)
                  replace h2 := (hbb.cell (p := ⟨g4, (C + 1) * 4 + 2, none⟩) hg4).trans (HC4.out.2.2.1 _ _ h2)
                  obtain ⟨th, -, hoh⟩ := HC4.out.2.1 h (List.mem_of_getElem? hhk)
                  have hrh := (RB.of_own hoh).keep hbb
                  have ish : h.is = (wb e0.bs (C + 1) false, C + 1) := by
                    have h3 : (fs.map Pf.is)[C + 1]? = some h.is := by rw [List.getElem?_map, hhk]; rfl
                    rw [HC4.out.1] at h3
                    unfold cutsOf at h3
                    rw [List.getElem?_map, List.getElem?_range (show C + 1 < 8 * e0.n + 1 by omega)] at h3
                    injection h3 with h3
                    exact h3.symm
                  have hhb : h.bs = wb e0.bs (C + 1) false := congrArg Prod.fst ish
                  have hhk' : h.k = C + 1 := congrArg Prod.snd ish
                  have hhl : isLen h.bs.length ∧ h.k ≤ 8 * h.bs.length := by
                    rw [hhb, wb_len, HLB.out, hhk']
                    exact ⟨his0, by omega⟩
                  have hal2 : (es'.all fun y => inP h.bs h.k y.bs) = false := by rw [hhb, hhk']; exact hCI.notIn (by rw [HLB.out]; exact hC)
                  have rH : ∀ w', Below wr.heap.size wr w' → w'.cell? ⟨g4, (C + 1) * 4, none⟩ = some (.slice h.a h.n h.c) ∧ w'.cell? ⟨g4, (C + 1) * 4 + 1, none⟩ = some (.string ⟨#[]⟩) ∧ w'.cell? ⟨g4, (C + 1) * 4 + 2, none⟩ = some (.int .i64 h.k) := fun w' hb =>
                    ⟨(hb.cell (p := ⟨g4, (C + 1) * 4, none⟩) hg4r).trans h0, (hb.cell (p := ⟨g4, (C + 1) * 4 + 1, none⟩) hg4r).trans h1, (hb.cell (p := ⟨g4, (C + 1) * 4 + 2, none⟩) hg4r).trans h2⟩
                  have k3 : ∀ w', Below wr.heap.size wr w' → Calls Tryd.prog 37 #[.agg #[.slice h.a h.n h.c, .string ⟨#[]⟩, .int .i64 h.k], .slice (some ⟨g3, 0, none⟩) t c3] w' fun e w'' => e = .returned (.bool false) ∧ Below w'.heap.size w' w'' := fun w' hb => by
                    have := allIn_c h.a (some ⟨g3, 0, none⟩) h.n t h.c c3 h.bs h.k es' z w' (hzr.keep hb) (hrh.keep hb) hhl.1 hhl.2 (hRSr.keep hb) (by omega)
                    rw [hal2] at this
                    exact this
                  have q3 : ((C : Int) == 8 * e0.n) = false ∧ (C == 8 * e0.n) = false := by simp; omega
                  have q4 : IntKind.i64.wrap ((C : Int) + 1) = (C : Int) + 1 ∧ ((C : Int) + 1).toNat = C + 1 ∧ (0 : Int) ≤ (C : Int) + 1 ∧ (C : Int) + 1 < 8 * e0.n + 1 := by rw [IntKind.wrap_i64]; omega
                  have HQ3 := Lib.hid q3
                  have HQ4 := Lib.hid q4
                  clear q3 q4 hC hCI hfb hfk' h0 h1 h2 hhk hoh ish hhb hhk' hal2
                  go_wp2_with fail
                  refine region_pick (Below wr.heap.size wr) [(0, false, none), (1, false, none), (2, false, none), (3, false, none), (4, false, none), (6, false, none), (7, false, none), (8, false, none), (5, true, none), (9, false, none), (10, false, none), (11, false, none), (12, false, none), (13, false, none), (14, false, none), (15, false, none), (16, false, none), (17, false, none), (18, false, none), (19, false, none), (20, false, none), (21, false, none), (22, false, none), (23, false, none), (24, false, none), (25, false, none), (26, false, none), (27, false, none), (28, false, none), (29, false, none), (30, false, none), (31, false, none), (32, false, none), (33, false, none), (34, false, none), (35, false, none), (36, false, none)] 37 (by kernel_rfl) (by kernel_rfl) (fun w w' h hb => h.trans (hb.mono h.size)) (hdr) ?_
                  simp only [pickOps, List.getElem?_cons_zero, List.getElem?_cons_succ]
                  repeat (first | (refine t_skip rfl ?_; (simp only [Act.put, List.setIfInBounds_toArray, List.set_cons_zero, List.set_cons_succ])) | (refine t_run ?_ rfl (fun w1 hw1 => ?_) ?_; rotate_left; (have r0 := (rF w1 hw1).1; have r1 := (rF w1 hw1).2.1; have r2 := (rF w1 hw1).2.2; have r3 := HQ.out.1; have r4 := rE w1 hw1; have r5 := HQ.out.2.1; have r6 := HQ.out.2.2; go_simp; try (with_reducible rfl)); (simp only [Act.put, List.setIfInBounds_toArray, List.set_cons_zero, List.set_cons_succ])))
                  refine t_new (fun v w' => LitRow 0 29 3 1 [.slice f.a f.n f.c, .string ⟨#[]⟩, .int .i64 f.k] v w') (by rfl) (fun v w w' h hb => h.keep hb) (fun w1 hw1 => ?_) ?_
                  refine ⟨?_, ?_, ?_, ?_, ?_⟩
                  rotate_left 2
                  (go_simp; first | (refine ⟨?_, ?_⟩ <;> with_reducible rfl) | with_reducible rfl)
                  exact ⟨_, rfl, own_lit w1 #[.slice f.a f.n f.c, .string ⟨#[]⟩, .int .i64 f.k] _ 3 1 _ (Nat.zero_le _) rfl (by omega)⟩
                  exact (Below.refl _ _).alloc (Nat.le_refl _) _
                  rintro v9 ⟨-, -, g9, rfl, -⟩
                  (simp only [Act.put, List.setIfInBounds_toArray, List.set_cons_zero, List.set_cons_succ])
                  repeat (first | (refine t_skip rfl ?_; (simp only [Act.put, List.setIfInBounds_toArray, List.set_cons_zero, List.set_cons_succ])) | (refine t_run ?_ rfl (fun w1 hw1 => ?_) ?_; rotate_left; (have r0 := (rF w1 hw1.1).1; have r1 := (rF w1 hw1.1).2.1; have r2 := (rF w1 hw1.1).2.2; have r3 := rE w1 hw1.1; have r4 := HQ.out.1; have r5 := HQ.out.2.1; have r6 := HQ.out.2.2; have r7 := HQ3.out.1; have r8 := HQ3.out.2; have r9 := HQ4.out.1; have r10 := HQ4.out.2.1; have r11 := HQ4.out.2.2; have r12 := (rH w1 hw1.1).1; have r13 := (rH w1 hw1.1).2.1; have r14 := (rH w1 hw1.1).2.2; go_simp; try (with_reducible rfl)); (simp only [Act.put, List.setIfInBounds_toArray, List.set_cons_zero, List.set_cons_succ])) | (refine t_call ?_ ?_ ?_ rfl (fun w1 hw1 => ?_) (fun w1 hw1 => ?_) ?_; rotate_left 3; (have r0 := (rF w1 hw1.1).1; have r1 := (rF w1 hw1.1).2.1; have r2 := (rF w1 hw1.1).2.2; have r3 := rE w1 hw1.1; have r4 := HQ.out.1; have r5 := HQ.out.2.1; have r6 := HQ.out.2.2; have r7 := HQ3.out.1; have r8 := HQ3.out.2; have r9 := HQ4.out.1; have r10 := HQ4.out.2.1; have r11 := HQ4.out.2.2; have r12 := (rH w1 hw1.1).1; have r13 := (rH w1 hw1.1).2.1; have r14 := (rH w1 hw1.1).2.2; go_simp; refine ⟨?_, ?_⟩ <;> with_reducible rfl); (first | (go_at_call 20; (with_reducible refine (k1 w1 g9 hw1.1 hw1.2).mono ?_); rintro e w2 ⟨rfl, hb⟩; refine ⟨?_, hb⟩; with_reducible rfl) | (go_at_call 37; (with_reducible refine (k2 w1 hw1.1).mono ?_); rintro e w2 ⟨rfl, hb⟩; refine ⟨?_, hb⟩; with_reducible rfl) | (go_at_call 37; (with_reducible refine (k3 w1 hw1.1).mono ?_); rintro e w2 ⟨rfl, hb⟩; refine ⟨?_, hb⟩; with_reducible rfl) | (go_at_call 20; (refine (k1 w1 g9 hw1.1 hw1.2).mono ?_); rintro e w2 ⟨rfl, hb⟩; refine ⟨?_, hb⟩; with_reducible rfl) | (go_at_call 37; (refine (k2 w1 hw1.1).mono ?_); rintro e w2 ⟨rfl, hb⟩; refine ⟨?_, hb⟩; with_reducible rfl) | (go_at_call 37; (refine (k3 w1 hw1.1).mono ?_); rintro e w2 ⟨rfl, hb⟩; refine ⟨?_, hb⟩; with_reducible rfl)); (simp only [Act.put, List.setIfInBounds_toArray, List.set_cons_zero, List.set_cons_succ])))
                  intro w9 ⟨hw9, _⟩
                  simp only [List.drop_succ_cons, List.drop_zero]
                  have hb9 := hb04.trans ((hbb.trans (hw9.mono hbb.size)).mono hb04.size)
                  go_wp2
                  go_returns
                  exact ⟨rfl, hb9⟩
end Go.Proofs.YtckfgdohpmllmaaDoor
