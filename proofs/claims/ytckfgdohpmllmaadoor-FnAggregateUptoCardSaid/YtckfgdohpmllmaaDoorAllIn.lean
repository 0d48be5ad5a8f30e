/-
  laws.allIn, and what bits in common say. 
-/
import Derived.Test.YtckfgdohpmllmaaDoorLong
namespace Go.Proofs.YtckfgdohpmllmaaDoor
open Go Go.RowKit
theorem infoBs : (Tryd.prog.info? 22).map (fun i => (i.zero, i.size, i.bytes)) = some (some (.slice none 0 0), 1, 24) := by kernel_rfl
set_option maxRecDepth 100000 in
set_option maxHeartbeats 16000000 in
theorem allIn_c (A B : Option Addr) (n m c d : Nat) (bs : List UInt8) (k : Nat) (es : List En) (z : ZP) (w : World) (hz : Zs w z) (ha : RB w A n bs) (hl : isLen bs.length) (hk : k ≤ 8 * bs.length) (hs : RS w B m es) (hm : m ≤ 140737488355328) :
    Calls Tryd.prog 37 #[.agg #[.slice A n c, .string ⟨#[]⟩, .int .i64 k], .slice B m d] w fun e w' => e = .returned (.bool (es.all fun e => inP bs k e.bs)) ∧ Below w.heap.size w w' := by
  have hxa : Below w.heap.size w (w.alloc (.cells #[.slice A n c, .string ⟨#[]⟩, .int .i64 k] 29)) := (Below.refl _ _).alloc (Nat.le_refl _) _
  have hbox : Blk (w.alloc (.cells #[.slice A n c, .string ⟨#[]⟩, .int .i64 k] 29)) w.heap.size 29 #[.slice A n c, .string ⟨#[]⟩, .int .i64 k] := heap_alloc_new _ _
  obtain ⟨gP, hgP⟩ : ∃ gP, gP = w.heap.size := ⟨_, rfl⟩
  rw [← hgP] at hbox
  obtain ⟨R, hR⟩ : ∃ R, R = es.all fun e => inP bs k e.bs := ⟨_, rfl⟩
  rw [← hR]
  have HR := Lib.hid hR
  have HX := Lib.hid (And.intro hgP (And.intro hbox hxa))
  clear hR hgP hbox hxa
  go_enter Tryd.func37, Tryd.ntmps37
  go_wp2_with fail
  obtain ⟨hgP, hbox, hxa⟩ := HX.out
  rw [← hgP]
  clear HX hgP
  generalize w.alloc (.cells #[.slice A n c, .string ⟨#[]⟩, .int .i64 k] 29) = w0 at *
  have hz0 := hz.keep hxa
  have ha0 := ha.keep hxa
  have hs0 := hs.keep hxa
  clear hz ha hs
  go_loopw [9] (fun i wr => ∃ j : Nat, j ≤ m ∧ i = .int .i64 j ∧ (∀ e ∈ es.take j, inP bs k e.bs = true) ∧ Below w0.heap.size w0 wr) (fun i _ => m - (intOf i).toNat)
  case atStart => exact ⟨0, Nat.zero_le _, rfl, fun e he => by simp at he, Below.refl _ _⟩
  case round =>
    obtain ⟨j, hj, rfl, hall, hbb⟩ := hrel
    have HALL := Lib.hid hall
    clear hall
    by_cases hlt : j < m
    · obtain ⟨g, o, e, hA, hg, hek, hc0, hbe, hnil, hcap⟩ := (hs0.keep hbb).at hlt
      subst hA
      have cP := (hbox.below hbb).cell
      have hzr := hz0.keep hbb
      have har := ha0.keep hbb
      have HE := Lib.hid hek
      clear hek
      go_wp2_with fail
      refine (contains_c A e.a n e.n c e.c bs e.bs k z wr hzr har hbe hnil hcap hl hk).mono ?_
      rintro e1 w1 ⟨rfl, hb1⟩
      have hbb1 := hbb.trans (hb1.mono hbb.size)
      obtain ⟨x, hx⟩ : ∃ x, x = inP bs k e.bs := ⟨_, rfl⟩
      rw [← hx]
      have HXX := Lib.hid hx
      clear hx cP
      cases x
      · have hRf : R = false := by
          rw [HR.out, List.all_eq_false]
          exact ⟨e, List.mem_of_getElem? HE.out, by rw [← HXX.out]; simp⟩
        have HRF := Lib.hid hRf
        clear hRf
        go_wp2
        go_returns
        exact ⟨by rw [HRF.out]; rfl, hxa.trans (hbb1.mono hxa.size)⟩
      · have hall2 : ∀ e ∈ es.take (j + 1), inP bs k e.bs = true := fun y hy => by
          rw [List.take_add_one, HE.out, Option.toList_some] at hy
          rcases List.mem_append.1 hy with hy | hy
          · exact HALL.out y hy
          · simp at hy; subst hy; exact HXX.out.symm
        have HA2 := Lib.hid hall2
        clear hall2
        go_wp2
        go_roundw
        case rel => exact ⟨j + 1, by omega, by go_num, HA2.out, hbb1⟩
        case measure => simp [intOf]; omega
    · obtain rfl : j = m := by omega
      have hRt : R = true := by
        rw [HR.out, List.all_eq_true]
        have h1 := HALL.out
        rw [List.take_of_length_le (by rw [hs0.1]; omega)] at h1
        exact h1
      have HRT := Lib.hid hRt
      clear hRt
      go_wp2
      go_returns
      exact ⟨by rw [HRT.out]; rfl, hxa.trans (hbb.mono hxa.size)⟩
/-- The first k bits of both are the same. -/
theorem top_of_bits {a b : List UInt8} {k : Nat} (hl : a.length = b.length) (hk : k ≤ 8 * b.length) (h : ∀ i < k, bitAt a i = bitAt b i) : Lib.beNat a / 2 ^ (8 * b.length - k) = Lib.beNat b / 2 ^ (8 * b.length - k) := by
  apply Nat.eq_of_testBit_eq
  intro i
  rw [Nat.testBit_div_two_pow, Nat.testBit_div_two_pow]
  by_cases hi : i < k
  · have := h (k - 1 - i) (by omega)
    unfold bitAt at this
    rw [hl] at this
    rw [show 8 * b.length - 1 - (k - 1 - i) = i + (8 * b.length - k) by omega] at this
    exact this
  · rw [beNat_no_bit a _ (by rw [hl]; omega), beNat_no_bit b _ (by omega)]
theorem bits_of_top {a b : List UInt8} {k : Nat} (hl : a.length = b.length) (hk : k ≤ 8 * b.length) (h : Lib.beNat a / 2 ^ (8 * b.length - k) = Lib.beNat b / 2 ^ (8 * b.length - k)) : ∀ i < k, bitAt a i = bitAt b i := by
  intro i hi
  have := congrArg (fun x => x.testBit (k - 1 - i)) h
  simp only [Nat.testBit_div_two_pow] at this
  unfold bitAt
  rw [hl]
  rw [show (k - 1 - i) + (8 * b.length - k) = 8 * b.length - 1 - i by omega] at this
  exact this
theorem inP_bits {a b : List UInt8} {k : Nat} (hk : k ≤ 8 * b.length) : inP (wb b k false) k a = true ↔ a.length = b.length ∧ ∀ i < k, bitAt a i = bitAt b i := by
  rw [inP_iff, wb_len, first_in b k]
  constructor
  · rintro ⟨h1, h2⟩; exact ⟨h1, bits_of_top h1 hk h2⟩
  · rintro ⟨h1, h2⟩; exact ⟨h1, top_of_bits h1 hk h2⟩
/-- C bits are what the first j have in common with b. -/
structure ComInv (b : List UInt8) (es : List En) (j C : Nat) : Prop where
  le : C ≤ 8 * b.length
  all : ∀ e ∈ es.take j, ∀ i < C, bitAt e.bs i = bitAt b i
  mx : C = 8 * b.length ∨ ∃ e ∈ es.take j, bitAt e.bs C ≠ bitAt b C
theorem ComInv.start (b : List UInt8) (es : List En) : ComInv b es 0 (8 * b.length) := ⟨Nat.le_refl _, fun e he => by simp at he, .inl rfl⟩
theorem ComInv.step {b : List UInt8} {es : List En} {j C k : Nat} {e : En} (h : ComInv b es j C) (he : es[j]? = some e) (hk : k ≤ C) (hb : ∀ i < k, bitAt e.bs i = bitAt b i) (hm : k = C ∨ bitAt e.bs k ≠ bitAt b k) : ComInv b es (j + 1) k := by
  have ht : es.take (j + 1) = es.take j ++ [e] := by rw [List.take_add_one, he, Option.toList_some]
  refine ⟨Nat.le_trans hk h.le, fun y hy i hi => ?_, ?_⟩
  · rw [ht] at hy
    rcases List.mem_append.1 hy with hy | hy
    · exact h.all y hy i (by omega)
    · simp at hy; subst hy; exact hb i hi
  · rw [ht]
    rcases hm with rfl | hm
    · rcases h.mx with h1 | ⟨y, h1, h2⟩
      · exact .inl h1
      · exact .inr ⟨y, by simp [h1], h2⟩
    · exact .inr ⟨e, by simp, hm⟩
theorem ComInv.allIn {b : List UInt8} {es : List En} {C : Nat} (h : ComInv b es es.length C) (hl : ∀ e ∈ es, e.bs.length = b.length) : (es.all fun e => inP (wb b C false) C e.bs) = true := by
  rw [List.all_eq_true]
  intro e he
  exact (inP_bits h.le).2 ⟨hl e he, h.all e (by rw [List.take_length]; exact he)⟩
theorem ComInv.notIn {b : List UInt8} {es : List En} {C : Nat} (h : ComInv b es es.length C) (hC : C ≠ 8 * b.length) : (es.all fun e => inP (wb b (C + 1) false) (C + 1) e.bs) = false := by
  rcases h.mx with h1 | ⟨e, h1, h2⟩
  · exact absurd h1 hC
  · rw [List.take_length] at h1
    rw [List.all_eq_false]
    refine ⟨e, h1, fun h3 => h2 ?_⟩
    have := h.le
    exact ((inP_bits (by omega)).1 h3).2 C (by omega)
end Go.Proofs.YtckfgdohpmllmaaDoor
