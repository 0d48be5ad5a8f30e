/-
  Contract: strconv.Atoi at one to three digits.
-/
import Derived.Test.YtnoolheinkeocaaGreatDoorPA
import Derived.Lib.ConvBytes
import Derived.Lib.AtoiErrMem
namespace Go.Proofs.YtnoolheinkeocaaGreatDoor
open Go Go.RowKit
/-- The number that digits spell. -/
def numOf (l : List UInt8) : Nat := l.foldl (fun a c => a * 10 + (c.toNat - 48)) 0
theorem numOf_snoc (l : List UInt8) (c : UInt8) : numOf (l ++ [c]) = numOf l * 10 + (c.toNat - 48) := by unfold numOf; rw [List.foldl_append]; rfl
def Digs (l : List UInt8) : Prop := ∀ c ∈ l, 48 ≤ c.toNat ∧ c.toNat ≤ 57
theorem digs_dig {d : Nat} (h : d < 10) : 48 ≤ (Tx.dig d).toNat ∧ (Tx.dig d).toNat ≤ 57 := by rw [Tx.dig_nat h]; omega
theorem digs_dec {x : Nat} (h : x < 1000) : Digs (Tx.decT x) := by
  intro c hc
  unfold Tx.decT at hc
  simp only [List.mem_append, List.mem_singleton] at hc
  rcases hc with hc | hc | rfl
  · split at hc
    · rw [List.mem_singleton] at hc; subst hc; exact digs_dig (by omega)
    · cases hc
  · split at hc
    · rw [List.mem_singleton] at hc; subst hc; exact digs_dig (by omega)
    · cases hc
  · exact digs_dig (by omega)
theorem numOf_dec {x : Nat} (h : x < 1000) : numOf (Tx.decT x) = x := by
  unfold Tx.decT
  by_cases h1 : 100 ≤ x
  · rw [if_pos h1, if_pos (by omega)]
    simp only [numOf, List.cons_append, List.nil_append, List.foldl_cons, List.foldl_nil]
    rw [Tx.dig_nat (by omega), Tx.dig_nat (by omega), Tx.dig_nat (by omega)]
    omega
  · rw [if_neg h1]
    by_cases h2 : 10 ≤ x
    · rw [if_pos h2]
      simp only [numOf, List.cons_append, List.nil_append, List.foldl_cons, List.foldl_nil]
      rw [Tx.dig_nat (by omega), Tx.dig_nat (by omega)]
      omega
    · rw [if_neg h2]
      simp only [numOf, List.nil_append, List.foldl_cons, List.foldl_nil]
      rw [Tx.dig_nat (by omega)]
      omega
theorem fold_lt : ∀ (l : List UInt8) (a : Nat), Digs l → l.foldl (fun a c => a * 10 + (c.toNat - 48)) a < (a + 1) * 10 ^ l.length
  | [], a, _ => by simp
  | c :: l, a, h => by
    have h1 := fold_lt l (a * 10 + (c.toNat - 48)) (fun x hx => h x (List.mem_cons_of_mem _ hx))
    have h2 := h c List.mem_cons_self
    rw [List.foldl_cons, List.length_cons, Nat.pow_succ]
    refine Nat.lt_of_lt_of_le h1 ?_
    rw [Nat.mul_comm (10 ^ l.length) 10, ← Nat.mul_assoc]
    exact Nat.mul_le_mul_right _ (by omega)
theorem numOf_lt (l : List UInt8) (h : Digs l) : numOf l < 10 ^ l.length := by
  have := fold_lt l 0 h
  rw [Nat.zero_add, Nat.one_mul] at this
  exact this
set_option maxRecDepth 100000 in
set_option maxHeartbeats 8000000 in
theorem atoi_in (s : ByteArray) (w : World) (h0 : 0 < s.size) (h3 : s.size < 10) (hd : Digs s.data.toList) :
    Calls Tryz.prog 59 #[.string s] w fun e w' => e = .returned (.tuple #[.int .i64 (numOf s.data.toList), .nilIface]) ∧ Below w.heap.size w w' := by
  have HD := Lib.hid hd
  obtain ⟨x, hx⟩ : ∃ x, x = (s[0]'h0).toNat := ⟨_, rfl⟩
  have hx' : (s[0]'h0).toNat = x := hx.symm
  have hxd : 48 ≤ x ∧ x ≤ 57 := by
    rw [hx]; apply hd
    have := at_list s 0 h0
    rw [List.drop_zero] at this
    rw [this]; exact List.mem_cons_self
  have hx1 : ((x : Int) == 45) = false := by rw [beq_eq_false_iff_ne]; omega
  have hx2 : ((x : Int) == 43) = false := by rw [beq_eq_false_iff_ne]; omega
  have hs1 : (0 : Int) < (s.size : Int) := by omega
  have hs2 : (s.size : Int) < 10 := by omega
  have hs3 : (s.size : Int) < 19 := by omega
  have hcv : ∀ w, (convert 9 23 (.string s)).run Tryz.prog w = .ok (.slice (some ⟨w.heap.size, 0, none⟩) s.size (grownCap w s.size 0 5)) (Lib.bytesWorld w 5 s) :=
    fun w => Lib.run_convert_string_bytes w _ _ _ s Tryz.underlying9 Tryz.underlying23 Tryz.underlying5
  clear hx hd
  go_enter Tryz.func59, Tryz.ntmps59
  go_wp2_with fail
  go_loopw [6, 49] (fun v6 v49 wr => ∃ i : Nat, v6 = .int .i64 (numOf (s.data.toList.take i)) ∧ v49 = .int .i64 i ∧ i ≤ s.size ∧ Hid (Below w.heap.size w wr ∧ ∀ j, j < s.size → wr.cell? ⟨w.heap.size, j, none⟩ = some (.int .u8 (s.data.toList.getD j 0).toNat))) (fun _ v49 _ => s.size - (intOf v49).toNat)
  case atStart =>
    exact ⟨0, rfl, rfl, Nat.zero_le _, Lib.hid ⟨Lib.bytesWorld_below _ _ _, fun j hj => Lib.bytesWorld_cell w _ s j hj⟩⟩
  case round =>
    obtain ⟨i, rfl, rfl, hi, hw⟩ := hrel
    have hdt : Digs (s.data.toList.take i) := fun c hc => HD.out c (List.mem_of_mem_take hc)
    have hb := numOf_lt _ hdt
    rw [List.length_take, Nat.min_eq_left (by rw [str_len]; exact hi)] at hb
    have hb2 : numOf (s.data.toList.take i) < 1000000000 := Nat.lt_of_lt_of_le hb (show 10 ^ i ≤ 10 ^ 9 from Nat.pow_le_pow_right (by omega) (by omega))
    by_cases hlt : i < s.size
    · have hlt' : (i : Int) < (s.size : Int) := by omega
      have hc := hw.out.2 i hlt
      have hg : s.data.toList.getD i 0 ∈ s.data.toList := by
        rw [List.getD_eq_getElem?_getD, List.getElem?_eq_getElem (by rw [str_len]; exact hlt)]; exact List.getElem_mem _
      have hy := HD.out _ hg
      have hn : numOf (s.data.toList.take (i + 1)) = numOf (s.data.toList.take i) * 10 + ((s.data.toList.getD i 0).toNat - 48) := by
        rw [List.take_add_one, List.getElem?_eq_getElem (by rw [str_len]; exact hlt)]
        simp only [Option.toList]
        rw [numOf_snoc, List.getD_eq_getElem?_getD, List.getElem?_eq_getElem (by rw [str_len]; exact hlt)]
        rfl
      obtain ⟨y, hyy⟩ : ∃ y, y = (s.data.toList.getD i 0).toNat := ⟨_, rfl⟩
      obtain ⟨m, hm⟩ : ∃ m, m = numOf (s.data.toList.take i) := ⟨_, rfl⟩
      rw [← hyy] at hc hy hn
      rw [← hm] at hn hb2 ⊢
      have HN := Lib.hid hn
      clear hyy hg hn hb hdt hm
      go_wp2
      go_roundw
      case rel => exact ⟨i + 1, by rw [HN.out]; congr 1; omega, by go_num, by omega, hw⟩
      case measure => simp [intOf]; omega
    · obtain rfl : i = s.size := by omega
      rw [List.take_of_length_le (by rw [str_len]; exact Nat.le_refl _)] at hb2 ⊢
      clear hb hdt
      go_wp2
      refine bodyPost_ret (v := .tuple #[.int .i64 (numOf s.data.toList), .nilIface]) (by simp [results, Tryz.results59, go_sem]) rfl ?_
      exact ⟨rfl, hw.out.1⟩
set_option maxRecDepth 100000 in
set_option maxHeartbeats 8000000 in
theorem atoi_c (s : ByteArray) (w : World) (h0 : 0 < s.size) (h3 : s.size < 10) (hd : Digs s.data.toList) :
    Calls Tryz.prog 50 #[.string s] w fun e w' => e = .returned (.tuple #[.int .i64 (numOf s.data.toList), .nilIface]) ∧ Below w.heap.size w w' := by
  have HC := Lib.hid (atoi_in s w h0 h3 hd)
  go_enter Tryz.func50, Tryz.ntmps50
  go_wp2_with fail
  refine HC.out.mono ?_
  rintro e w2 ⟨rfl, hb⟩
  have HB := Lib.hid hb
  clear hb
  go_wp2
  refine bodyPost_ret (v := .tuple #[.int .i64 (numOf s.data.toList), .nilIface]) (by simp [results, Tryz.results50, go_sem]) rfl ?_
  exact ⟨rfl, HB.out⟩
end Go.Proofs.YtnoolheinkeocaaGreatDoor
