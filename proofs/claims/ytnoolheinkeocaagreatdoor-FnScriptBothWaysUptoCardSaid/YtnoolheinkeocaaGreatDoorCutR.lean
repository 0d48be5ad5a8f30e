/-
  What ParsePrefix reads of a text cut short.
-/
import Derived.Test.YtnoolheinkeocaaGreatDoorAtoi
import Derived.Test.YtnoolheinkeocaaGreatDoorTextM
import Derived.Test.YtnoolheinkeocaaGreatDoorPPfx3
import Derived.Test.YtnoolheinkeocaaGreatDoorEach
namespace Go.Proofs.YtnoolheinkeocaaGreatDoor
open Go
theorem decT1 {x : Nat} (h : x < 10) : Tx.decT x = [Tx.dig x] := by
  unfold Tx.decT; rw [if_neg (by omega), if_neg (by omega), Nat.mod_eq_of_lt h]; rfl
theorem decT2 {x : Nat} (h : 10 ≤ x) (h2 : x < 100) : Tx.decT x = [Tx.dig (x / 10), Tx.dig (x % 10)] := by
  unfold Tx.decT; rw [if_neg (by omega), if_pos h, Nat.mod_eq_of_lt (show x / 10 < 10 by omega)]; rfl
theorem decT3 {x : Nat} (h : 100 ≤ x) : Tx.decT x = [Tx.dig (x / 100), Tx.dig (x / 10 % 10), Tx.dig (x % 10)] := by
  unfold Tx.decT; rw [if_pos h, if_pos (by omega)]; rfl
theorem numOf_digs {a b c : Nat} (ha : a < 10) (hb : b < 10) (hc : c < 10) : numOf [Tx.dig a] = a ∧ numOf [Tx.dig a, Tx.dig b] = a * 10 + b ∧ numOf [Tx.dig a, Tx.dig b, Tx.dig c] = (a * 10 + b) * 10 + c := by
  simp only [numOf, List.foldl_cons, List.foldl_nil]
  rw [Tx.dig_nat ha, Tx.dig_nat hb, Tx.dig_nat hc]
  omega
/-- The first digits of a decimal are the decimal of the number they spell; it is no greater. -/
theorem dec_take {k m : Nat} (hk : k < 1000) (h0 : 0 < m) (hm : m ≤ (Tx.decT k).length) : Tx.decT (numOf ((Tx.decT k).take m)) = (Tx.decT k).take m ∧ numOf ((Tx.decT k).take m) ≤ k := by
  by_cases h3 : 100 ≤ k
  · rw [decT3 h3] at hm ⊢
    obtain ⟨n1, n2, n3⟩ := numOf_digs (a := k / 100) (b := k / 10 % 10) (c := k % 10) (by omega) (by omega) (by omega)
    have hm3 : m = 1 ∨ m = 2 ∨ m = 3 := by simp at hm; omega
    rcases hm3 with rfl | rfl | rfl
    · simp only [List.take_succ_cons, List.take_zero]; rw [n1, decT1 (by omega)]; exact ⟨rfl, by omega⟩
    · simp only [List.take_succ_cons, List.take_zero]; rw [n2, decT2 (by omega) (by omega), show (k / 100 * 10 + k / 10 % 10) / 10 = k / 100 by omega, show (k / 100 * 10 + k / 10 % 10) % 10 = k / 10 % 10 by omega]; exact ⟨rfl, by omega⟩
    · simp only [List.take_succ_cons, List.take_zero]; rw [n3, show (k / 100 * 10 + k / 10 % 10) * 10 + k % 10 = k by omega, decT3 h3]; exact ⟨rfl, by omega⟩
  · by_cases h2 : 10 ≤ k
    · rw [decT2 h2 (by omega)] at hm ⊢
      obtain ⟨n1, n2, -⟩ := numOf_digs (a := k / 10) (b := k % 10) (c := 0) (by omega) (by omega) (by omega)
      have hm3 : m = 1 ∨ m = 2 := by simp at hm; omega
      rcases hm3 with rfl | rfl
      · simp only [List.take_succ_cons, List.take_zero]; rw [n1, decT1 (by omega)]; exact ⟨rfl, by omega⟩
      · simp only [List.take_succ_cons, List.take_zero]; rw [n2, show k / 10 * 10 + k % 10 = k by omega, decT2 h2 (by omega)]; exact ⟨rfl, by omega⟩
    · have h10 : k < 10 := by omega
      rw [decT1 h10] at hm ⊢
      obtain ⟨n1, -, -⟩ := numOf_digs (a := k) (b := 0) (c := 0) (by omega) (by omega) (by omega)
      obtain rfl : m = 1 := by simp at hm; omega
      simp only [List.take_succ_cons, List.take_zero]; rw [n1, decT1 h10]; exact ⟨rfl, Nat.le_refl _⟩
end Go.Proofs.YtnoolheinkeocaaGreatDoor
namespace Go.Proofs.YtnoolheinkeocaaGreatDoor
open Go Go.RowKit
def cutOut (p : List UInt8 × Nat) (i : Nat) : Out := if i ≤ (Tx.adT p.1).length + 1 then none else some (p.1, numOf ((Tx.decT p.2).take (i - ((Tx.adT p.1).length + 1))))
theorem ad_no {bs : List UInt8} (hl : isLen bs.length) {c : UInt8} (hc : Tx.hexv c = none) (h1 : c ≠ 46) (h2 : c ≠ 58) : c ∉ Tx.adT bs := fun h => by
  rcases Tx.adB_ad hl c h with ⟨d, hd⟩ | h | h
  · rw [hc] at hd; cases hd
  · exact h1 h
  · exact h2 h
theorem cut_reads (p : List UInt8 × Nat) (hp : Vp p) (i : Nat) (hi : i ≤ (pfT p).length) (z : ZP) (w0 : World) (hz : Zs w0 z) (ev : Value) (hv : w0.cell? ⟨4, 0, none⟩ = some ev) (hev : ev = .nilIface ∨ ∃ t p, ev = .iface t p) (hg : 4 < w0.heap.size) :
    Reads z w0 ⟨((pfT p).take i).toArray⟩ (cutOut p i) := by
  have h47 := ad_no hp.1 (c := 47) (by decide) (by decide) (by decide)
  have h37 := ad_no hp.1 (c := 37) (by decide) (by decide) (by decide)
  have hpa := Tx.pA_ad hp.1
  have hle := pfT_le p hp.1
  have h128 : p.2 ≤ 128 := by have := hp.2; rcases hp.1 with h | h <;> rw [h] at this <;> omega
  have hsz : (⟨((pfT p).take i).toArray⟩ : ByteArray).size ≤ 4611686018427387904 := by
    show ((pfT p).take i).toArray.size ≤ _
    simp; omega
  have hlen : (pfT p).length = (Tx.adT p.1).length + 1 + (Tx.decT p.2).length := by unfold pfT; simp; omega
  by_cases h1 : i ≤ (Tx.adT p.1).length
  · have ho : cutOut p i = none := if_pos (by omega)
    rw [ho]
    refine ⟨fun q hq => (by cases hq), fun w hb => parsePf_no _ w hsz ?_⟩
    show 47 ∉ (pfT p).take i
    unfold pfT
    rw [List.take_append_of_le_length h1]
    exact fun h => h47 (List.mem_of_mem_take h)
  · have hPA : ∀ (s : ByteArray), (s.extract 0 (Tx.adT p.1).length).data.toList = Tx.adT p.1 → ∀ w1, Zs w1 z → Calls Tryz.prog 48 #[.string (s.extract 0 (Tx.adT p.1).length)] w1 fun e w2 => e = .returned (.tuple #[.agg #[.int .u64 (adOf p.1).h, .int .u64 (adOf p.1).l, .pointer (z.ptr (adOf p.1).k)], .nilIface]) ∧ Below w1.heap.size w1 w2 := fun s hs w1 hz1 => by
      have hal := adT_le hp.1
      refine (parseAddr_c _ z w1 hz1 (by rw [← str_len, hs]; omega) (by rw [hs]; exact h37)).mono ?_
      intro e w2 h
      rw [hs, hpa] at h
      exact ⟨h.2.2, h.1⟩
    by_cases h2 : i = (Tx.adT p.1).length + 1
    · have ho : cutOut p i = none := if_pos (by omega)
      have hl : (pfT p).take i = Tx.adT p.1 ++ [47] := by
        unfold pfT; rw [h2, List.take_append, List.take_of_length_le (by omega), show (Tx.adT p.1).length + 1 - (Tx.adT p.1).length = 1 by omega]; rfl
      obtain ⟨hk, -⟩ := bl_len hp.1
      obtain ⟨b6, hb6⟩ : ∃ b, (adOf p.1).k = some b := by
        cases h : (adOf p.1).k with
        | none => exact absurd h hk
        | some b => exact ⟨b, rfl⟩
      rw [ho]
      refine ⟨fun q hq => (by cases hq), fun w hb => ?_⟩
      have hd : (⟨((pfT p).take i).toArray⟩ : ByteArray).data.toList = Tx.adT p.1 ++ [47] := hl
      have := hPA _ (pre_list hd)
      rw [hb6] at this
      exact parsePf_cut _ (Tx.adT p.1) _ _ b6 z w (hz.keep hb) hsz hd ev ((hb.cell (p := ⟨4, 0, none⟩) hg).trans hv) hev (Nat.lt_of_lt_of_le hg hb.size) this
    · have ho : cutOut p i = some (p.1, numOf ((Tx.decT p.2).take (i - ((Tx.adT p.1).length + 1)))) := if_neg (by omega)
      obtain ⟨d1, d2⟩ := dec_take (k := p.2) (m := i - ((Tx.adT p.1).length + 1)) (by omega) (by omega) (by omega)
      have hl : (pfT p).take i = Tx.adT p.1 ++ 47 :: Tx.decT (numOf ((Tx.decT p.2).take (i - ((Tx.adT p.1).length + 1)))) := by
        rw [d1]; unfold pfT
        rw [List.take_append, List.take_of_length_le (by omega), show i - (Tx.adT p.1).length = (i - ((Tx.adT p.1).length + 1)) + 1 by omega, List.take_succ_cons]
      rw [ho]
      refine ⟨fun q hq => (by injection hq with hq; subst hq; exact ⟨hp.1, Nat.le_trans d2 hp.2⟩), fun w hb => ?_⟩
      exact parsePf_c _ (Tx.adT p.1) p.1 _ z w (hz.keep hb) hsz hl h37 hpa hp.1 (Nat.le_trans d2 hp.2)
end Go.Proofs.YtnoolheinkeocaaGreatDoor
