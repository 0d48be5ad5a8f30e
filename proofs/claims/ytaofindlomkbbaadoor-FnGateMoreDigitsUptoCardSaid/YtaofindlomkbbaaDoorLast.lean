/-
  Contract: LastIndexByteString.
-/
import Derived.Test.YtaofindlomkbbaaDoorPA
namespace Go.Proofs.YtaofindlomkbbaaDoor
open Go Go.RowKit
/-- The last place of a byte among the first n. -/
def lix (l : List UInt8) (c : UInt8) : Nat → Int
  | 0 => -1
  | n + 1 => if l.getD n 0 = c then (n : Int) else lix l c n
theorem lix_none {l : List UInt8} {c : UInt8} (h : c ∉ l) : ∀ n, n ≤ l.length → lix l c n = -1
  | 0, _ => rfl
  | n + 1, hn => by
    unfold lix
    rw [if_neg (fun e => h (by rw [← e, List.getD_eq_getElem?_getD, List.getElem?_eq_getElem (by omega)]; exact List.getElem_mem _))]
    exact lix_none h n (by omega)
theorem lix_at {a b : List UInt8} {c : UInt8} (h : c ∉ b) : ∀ n, n ≤ b.length → lix (a ++ c :: b) c (a.length + 1 + n) = a.length
  | 0, _ => by
    show (if _ then _ else _) = _
    rw [if_pos (by rw [List.getD_eq_getElem?_getD, List.getElem?_append_right (Nat.le_refl _), Nat.sub_self]; rfl)]
  | n + 1, hn => by
    show (if (a ++ c :: b).getD (a.length + 1 + n) 0 = c then _ else lix (a ++ c :: b) c (a.length + 1 + n)) = _
    rw [if_neg, lix_at h n (by omega)]
    intro e
    apply h
    rw [List.getD_eq_getElem?_getD, List.getElem?_append_right (by omega), show a.length + 1 + n - a.length = n + 1 by omega, List.getElem?_cons_succ, List.getElem?_eq_getElem (by omega)] at e
    rw [← e]
    exact List.getElem_mem _
theorem lix_all {a b : List UInt8} {c : UInt8} (h : c ∉ b) : lix (a ++ c :: b) c (a ++ c :: b).length = a.length := by
  rw [List.length_append, List.length_cons, show a.length + (b.length + 1) = a.length + 1 + b.length by omega]
  exact lix_at h _ (Nat.le_refl _)
set_option maxRecDepth 100000 in
set_option maxHeartbeats 4000000 in
theorem last_c (s : ByteArray) (c : UInt8) (w : World) (hs : s.size ≤ 4611686018427387904) :
    Calls Tryd.prog 40 #[.string s, .int .u8 c.toNat] w fun e w' => e = .returned (.int .i64 (lix s.data.toList c s.size)) ∧ w' = w := by
  go_enter Tryd.func40, Tryd.ntmps40
  go_wp2_with fail
  go_loopw [5] (fun v5 wr => wr = w ∧ ∃ k : Nat, v5 = .int .i64 ((k : Int) - 1) ∧ k ≤ s.size ∧ Hid (lix s.data.toList c s.size = lix s.data.toList c k)) (fun v5 _ => (intOf v5 + 1).toNat)
  case atStart => exact ⟨rfl, s.size, rfl, Nat.le_refl _, Lib.hid rfl⟩
  case round =>
    obtain ⟨rfl, k, rfl, hk, hl⟩ := hrel
    cases k with
    | zero =>
      have hlt : ¬ (((0 : Nat) : Int) - 1 ≥ 0) := by omega
      go_wp2
      refine bodyPost_ret (v := .int .i64 (-1)) (by simp [results, Tryd.results40, go_sem]) rfl ?_
      exact ⟨by rw [hl.out]; rfl, rfl⟩
    | succ k =>
      have hge : (((k + 1 : Nat) : Int) - 1 ≥ 0) := by omega
      have hlt : k < s.size := by omega
      obtain ⟨x, hx⟩ : ∃ x, x = (s[k]'hlt).toNat := ⟨_, rfl⟩
      have hx' : (s[k]'hlt).toNat = x := hx.symm
      have hg : s.data.toList.getD k 0 = s[k]'hlt := by
        have := at_list s k hlt
        rw [List.getD_eq_getElem?_getD, show s.data.toList[k]? = (s.data.toList.drop k)[0]? by rw [List.getElem?_drop, Nat.add_zero], this]; rfl
      have hl2 := hl.out
      rw [show lix s.data.toList c (k + 1) = if s.data.toList.getD k 0 = c then (k : Int) else lix s.data.toList c k from rfl, hg] at hl2
      clear hx
      by_cases h : (s[k]'hlt) = c
      · rw [if_pos h] at hl2
        have hb : ((x : Int) == (c.toNat : Int)) = true := by rw [← hx', h]; simp
        have HL := Lib.hid hl2
        clear hl2 hl h hg
        go_wp2
        refine bodyPost_ret (v := .int .i64 k) (by simp [results, Tryd.results40, go_sem]) rfl ?_
        exact ⟨by rw [HL.out], rfl⟩
      · rw [if_neg h] at hl2
        have hb : ((x : Int) == (c.toNat : Int)) = false := by
          rw [beq_eq_false_iff_ne]
          intro e
          apply h
          rw [← UInt8.toNat_inj, hx']
          omega
        have HL := Lib.hid hl2
        clear hl2 hl h hg
        go_wp2
        go_roundw
        case rel => exact ⟨by first | trivial | rfl, k, by first | trivial | (congr 1; omega), by omega, HL⟩
        case measure => simp [intOf]
end Go.Proofs.YtaofindlomkbbaaDoor
