/-
  The texts of addresses with ports, cut.
-/
import Derived.Test.YtaofindlomkbbaaDoorGRead
namespace Go.Proofs.YtaofindlomkbbaaDoor
open Go Go.RowKit
set_option maxRecDepth 100000 in
set_option maxHeartbeats 4000000 in
theorem lastColon_c (s : ByteArray) (w : World) (hs : s.size ≤ 4611686018427387904) :
    Calls Tryd.prog 10 #[.string s] w fun e w' => e = .returned (.int .i64 (lix s.data.toList 58 s.size)) ∧ w' = w := by
  go_enter Tryd.func10, Tryd.ntmps10
  go_wp2_with fail
  go_loopw [3] (fun v5 wr => wr = w ∧ ∃ k : Nat, v5 = .int .i64 ((k : Int) - 1) ∧ k ≤ s.size ∧ Hid (lix s.data.toList 58 s.size = lix s.data.toList 58 k)) (fun v5 _ => (intOf v5 + 1).toNat)
  case atStart => exact ⟨rfl, s.size, rfl, Nat.le_refl _, Lib.hid rfl⟩
  case round =>
    obtain ⟨rfl, k, rfl, hk, hl⟩ := hrel
    cases k with
    | zero =>
      have hlt : ¬ (((0 : Nat) : Int) - 1 ≥ 0) := by omega
      go_wp2
      go_returns
      exact ⟨by rw [hl.out]; rfl, rfl⟩
    | succ k =>
      have hge : (((k + 1 : Nat) : Int) - 1 ≥ 0) := by omega
      have hlt : k < s.size := by omega
      obtain ⟨x, hx⟩ : ∃ x, x = (s[k]'hlt).toNat := ⟨_, rfl⟩
      have hx' : (s[k]'hlt).toNat = x := hx.symm
      have hg : s.data.toList.getD k 0 = s[k]'hlt := by
        have := at_list s k hlt
        rw [List.getD_eq_getElem?_getD, show s.data.toList[k]? = (s.data.toList.drop k)[0]? by rw [List.getElem?_drop, Nat.add_zero], this]; rfl
      have hl2 := hl.out
      rw [show lix s.data.toList 58 (k + 1) = if s.data.toList.getD k 0 = 58 then (k : Int) else lix s.data.toList 58 k from rfl, hg] at hl2
      clear hx
      by_cases h : (s[k]'hlt) = 58
      · rw [if_pos h] at hl2
        have hb : ((x : Int) == 58) = true := by rw [← hx', h]; rfl
        have HL := Lib.hid hl2
        clear hl2 hl h hg
        go_wp2
        go_returns
        exact ⟨by rw [HL.out]; exact congrArg (fun i => Ending.returned (.int .i64 i)) (show ((k + 1 : Nat) : Int) - 1 = k by omega), rfl⟩
      · rw [if_neg h] at hl2
        have hb : ((x : Int) == 58) = false := by
          rw [beq_eq_false_iff_ne]
          intro e
          apply h
          rw [← UInt8.toNat_inj, hx']
          show x = 58
          omega
        have HL := Lib.hid hl2
        clear hl2 hl h hg
        go_wp2
        go_roundw
        case rel => exact ⟨by first | trivial | rfl, k, by first | trivial | (congr 1; omega), by omega, HL⟩
        case measure => simp [intOf]
end Go.Proofs.YtaofindlomkbbaaDoor
namespace Go.Proofs.YtaofindlomkbbaaDoor
open Go Go.RowKit
theorem no58_v4 {bs : List UInt8} (h : bs.length = 4) : (58 : UInt8) ∉ Tx.adT bs := by
  obtain ⟨b0, b1, b2, b3, rfl⟩ : ∃ a b c d, bs = [a, b, c, d] := by
    match bs, h with
    | [a, b, c, d], _ => exact ⟨a, b, c, d, rfl⟩
  show (58 : UInt8) ∉ Tx.v4T b0 b1 b2 b3
  have hd : ∀ x : UInt8, (58 : UInt8) ∉ Tx.decT x.toNat := fun x hx => by
    obtain ⟨d, h1, h2⟩ := Tx.decT_mem (UInt8.toNat_lt x) _ hx
    have h3 := congrArg UInt8.toNat h2
    rw [Tx.dig_nat h1] at h3
    have : (58 : UInt8).toNat = 58 := rfl
    omega
  unfold Tx.v4T
  intro hm
  simp only [List.mem_append, List.mem_cons] at hm
  rcases hm with hm | hm | hm | hm | hm | hm | hm
  · exact hd _ hm
  · cases hm
  · exact hd _ hm
  · cases hm
  · exact hd _ hm
  · cases hm
  · exact hd _ hm
/-- A list that has an element has a last one of it. -/
theorem last_split {l : List UInt8} {c : UInt8} (h : c ∈ l) : ∃ a b, l = a ++ c :: b ∧ c ∉ b := by
  induction l with
  | nil => cases h
  | cons x r ih =>
    by_cases hr : c ∈ r
    · obtain ⟨a, b, rfl, hb⟩ := ih hr
      exact ⟨x :: a, b, rfl, hb⟩
    · rcases List.mem_cons.1 h with rfl | h
      · exact ⟨[], r, rfl, hr⟩
      · exact absurd h hr
theorem gA_len {bs : List UInt8} : (gA bs).length = (if bs.length = 4 then (Tx.adT bs).length else (Tx.adT bs).length + 2) := by
  unfold gA; split <;> simp
/-- What stands ahead of a colon in a bracketed address does not end in a bracket. -/
theorem no_close {bs A B R : List UInt8} (hl : isLen bs.length) (h16 : ¬ bs.length = 4) (h : gA bs = A ++ 58 :: (B ++ R)) : (93 : UInt8) ∉ A ∧ A[0]? = some 91 ∧ 0 < A.length := by
  have hA : gA bs = 91 :: (Tx.adT bs ++ [93]) := if_neg h16
  rw [hA] at h
  have hno := gA_no hl
  refine ⟨?_, ?_⟩
  · intro hm
    have h1 : (91 :: Tx.adT bs) ++ [93] = A ++ 58 :: (B ++ R) := h
    rcases List.eq_nil_or_concat (B ++ R) with e | ⟨I, x, e⟩
    · rw [e] at h1
      have h2 := (List.append_inj' h1 rfl).2
      injection h2 with h2 _
      cases h2
    · rw [e, show A ++ 58 :: (I.concat x) = (A ++ 58 :: I) ++ [x] by simp] at h1
      have h2 := (List.append_inj' h1 rfl).1
      have h3 : (93 : UInt8) ∈ 91 :: Tx.adT bs := by rw [h2]; exact List.mem_append_left _ hm
      rcases List.mem_cons.1 h3 with h3 | h3
      · cases h3
      · exact hno.2.2 h3
  · cases A with
    | nil => injection h with h _; cases h
    | cons x r => injection h with h _; subst h; exact ⟨rfl, by simp⟩
/-- The text, cut ahead of the port's digits. -/
theorem cut_bad {bs D : List UInt8} (hl : isLen bs.length) {q : Nat} (hq : q ≤ (gA bs).length + 1) : Bad ((gA bs ++ 58 :: D).take q) := by
  have hpos := adT_pos hl
  have hgl := gA_len (bs := bs)
  by_cases h1 : q = (gA bs).length + 1
  · subst h1
    right
    refine ⟨gA bs, [], ?_, by simp, by split at hgl <;> omega, .inl rfl⟩
    rw [show gA bs ++ 58 :: D = (gA bs ++ [58]) ++ D by simp, show (gA bs).length + 1 = (gA bs ++ [58]).length by simp, List.take_left]
  · have hq' : q ≤ (gA bs).length := by omega
    rw [List.take_append_of_le_length hq']
    by_cases h4 : bs.length = 4
    · left
      intro hm
      have := List.mem_of_mem_take hm
      rw [show gA bs = Tx.adT bs from if_pos h4] at this
      exact no58_v4 h4 this
    · by_cases hm : (58 : UInt8) ∈ (gA bs).take q
      · right
        obtain ⟨A, B, e, hB⟩ := last_split hm
        have hg : gA bs = A ++ 58 :: (B ++ (gA bs).drop q) := by
          calc gA bs = (gA bs).take q ++ (gA bs).drop q := (List.take_append_drop q _).symm
            _ = _ := by rw [e]; simp
        obtain ⟨n1, n2, n3⟩ := no_close hl h4 hg
        exact ⟨A, B, e, hB, n3, .inr ⟨n2, .inr fun h => n1 (List.mem_of_getLast? h)⟩⟩
      · exact .inl hm
/-- What the cut text reads as. -/
def gcut (bs : List UInt8) (u q : Nat) : GOut := if q ≤ (gA bs).length + 1 then none else some (bs, numA 0 ((Lib.decDigits u).take (q - ((gA bs).length + 1))))
theorem take_le (l : List UInt8) (k : Nat) : numA 0 (l.take k) ≤ numA 0 l := by
  conv => rhs; rw [← List.take_append_drop k l, numA_append]
  exact numA_le _ _
theorem gcut_reads (bs : List UInt8) (u : Nat) (hl : isLen bs.length) (hu : u < 65536) (q : Nat) (hq : q ≤ (gT bs u).length) (z : ZP) (w0 : World) (hz : Zs w0 z) : GReads z w0 (ba ((gT bs u).take q)) (gcut bs u q) := by
  have hgl := gA_len (bs := bs)
  have hle := adT_le hl
  have hdl := dd_len hu
  have hnum := dd_num u
  unfold gcut
  rw [gT_gA] at hq ⊢
  by_cases h : q ≤ (gA bs).length + 1
  · rw [if_pos h]
    exact bad_reads (cut_bad hl h) (by rw [List.length_take]; split at hgl <;> omega) z w0
  · rw [if_neg h]
    have e : (gA bs ++ 58 :: Lib.decDigits u).take q = gA bs ++ 58 :: (Lib.decDigits u).take (q - ((gA bs).length + 1)) := by
      rw [List.take_append, List.take_of_length_le (by omega)]
      congr 1
      obtain ⟨k, hk⟩ : ∃ k, q - (gA bs).length = k + 1 := ⟨q - (gA bs).length - 1, by omega⟩
      rw [hk, List.take_succ_cons]
      congr 2
      omega
    rw [e]
    have hk : 0 < q - ((gA bs).length + 1) := by omega
    refine gt_reads bs _ hl ?_ (fun c hc => dd_digs u c (List.mem_of_mem_take hc)) (by have := take_le (Lib.decDigits u) (q - ((gA bs).length + 1)); omega) (by rw [List.length_take]; omega) z w0 hz
    intro e0
    have := congrArg List.length e0
    rw [List.length_take, List.length_nil] at this
    have hp : 0 < (Lib.decDigits u).length := List.length_pos_iff.2 (dd_ne u)
    omega
end Go.Proofs.YtaofindlomkbbaaDoor
