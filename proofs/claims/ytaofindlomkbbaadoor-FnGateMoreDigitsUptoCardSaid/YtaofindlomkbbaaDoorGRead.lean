/-
  The texts of addresses with ports: what is read of them.
-/
import Derived.Test.YtaofindlomkbbaaDoorGEach
import Derived.Test.YtaofindlomkbbaaDoorGStr
namespace Go.Proofs.YtaofindlomkbbaaDoor
open Go Go.RowKit
theorem pre_list {s : ByteArray} {a b : List UInt8} (h : s.data.toList = a ++ b) : (s.extract 0 a.length).data.toList = a := by
  rw [extract_list]
  unfold bytesIn
  rw [h, List.drop_zero, Nat.sub_zero, List.take_left]
theorem suf_list2 {s : ByteArray} {a b : List UInt8} {c : UInt8} (h : s.data.toList = a ++ c :: b) : (s.extract (a.length + 1) s.size).data.toList = b := by
  rw [suf_list, h, show a ++ c :: b = (a ++ [c]) ++ b by simp, show a.length + 1 = (a ++ [c]).length by simp, List.drop_left]
/-- What digits are as a number, behind another one. -/
def numA (acc : Nat) : List UInt8 → Nat
  | [] => acc
  | c :: r => numA (acc * 10 + (c.toNat - 48)) r
def Digs (l : List UInt8) : Prop := ∀ c ∈ l, 48 ≤ c.toNat ∧ c.toNat ≤ 57
theorem numA_append (l m : List UInt8) : ∀ acc, numA acc (l ++ m) = numA (numA acc l) m := by
  induction l with
  | nil => intro acc; rfl
  | cons c r ih => intro acc; exact ih _
theorem numA_le (l : List UInt8) : ∀ acc, acc ≤ numA acc l := by
  induction l with
  | nil => intro acc; exact Nat.le_refl _
  | cons c r ih => intro acc; have := ih (acc * 10 + (c.toNat - 48)); unfold numA; omega
theorem um_ok (l : List UInt8) (hd : Digs l) : ∀ acc, numA acc l < 65536 → Lib.parseUintM 65535 acc l = .ok (numA acc l) := by
  induction l with
  | nil => intro acc _; rfl
  | cons c r ih =>
    intro acc h
    have hc := hd c (List.mem_cons_self ..)
    have h1 := numA_le r (acc * 10 + (c.toNat - 48))
    have h2 : numA (acc * 10 + (c.toNat - 48)) r < 65536 := h
    unfold Lib.parseUintM
    rw [if_pos hc, if_neg (by omega), if_neg (by omega)]
    exact ih (fun x hx => hd x (List.mem_cons_of_mem _ hx)) _ h
theorem ub_ok {l : List UInt8} (hn : l ≠ []) (hd : Digs l) (h : numA 0 l < 65536) : Lib.parseUintB 16 l = .ok (numA 0 l) := by
  unfold Lib.parseUintB
  rw [if_neg hn]
  exact um_ok l hd 0 h
theorem dd_digs (u : Nat) : Digs (Lib.decDigits u) := by
  induction u using Nat.strongRecOn with
  | ind u ih =>
    rw [Lib.decDigits]
    by_cases h : u < 10
    · rw [dif_pos h]
      intro c hc
      rw [List.mem_singleton.1 hc]
      rw [UInt8.toNat_ofNat']; omega
    · rw [dif_neg h]
      intro c hc
      rcases List.mem_append.1 hc with hc | hc
      · exact ih (u / 10) (by omega) c hc
      · rw [List.mem_singleton.1 hc]
        rw [UInt8.toNat_ofNat']; omega
theorem dd_num (u : Nat) : numA 0 (Lib.decDigits u) = u := by
  induction u using Nat.strongRecOn with
  | ind u ih =>
    rw [Lib.decDigits]
    by_cases h : u < 10
    · rw [dif_pos h]
      show 0 * 10 + ((UInt8.ofNat (48 + u)).toNat - 48) = u
      rw [UInt8.toNat_ofNat']; omega
    · rw [dif_neg h, numA_append, ih (u / 10) (by omega)]
      show u / 10 * 10 + ((UInt8.ofNat (48 + u % 10)).toNat - 48) = u
      rw [UInt8.toNat_ofNat']; omega
theorem dd_ne (u : Nat) : Lib.decDigits u ≠ [] := by
  rw [Lib.decDigits]
  split
  · simp
  · simp
theorem dd_len {u : Nat} (h : u < 65536) : (Lib.decDigits u).length ≤ 5 := by
  rw [Lib.decDigits_length]
  by_cases h1 : u < 10
  · rw [Lib.nDigits_small h1]; omega
  rw [Lib.nDigits_big h1]
  by_cases h2 : u / 10 < 10
  · rw [Lib.nDigits_small h2]; omega
  rw [Lib.nDigits_big h2]
  by_cases h3 : u / 10 / 10 < 10
  · rw [Lib.nDigits_small h3]; omega
  rw [Lib.nDigits_big h3]
  by_cases h4 : u / 10 / 10 / 10 < 10
  · rw [Lib.nDigits_small h4]; omega
  rw [Lib.nDigits_big h4, Lib.nDigits_small (by omega)]
  omega
/-- A text as the program has it. -/
def ba (l : List UInt8) : ByteArray := ⟨l.toArray⟩
theorem ba_list (l : List UInt8) : (ba l).data.toList = l := rfl
theorem ba_size (l : List UInt8) : (ba l).size = l.length := by rw [← str_len]; rfl
theorem ba_of {s : ByteArray} {l : List UInt8} (h : s.data.toList = l) : s = ba l := by
  calc s = ⟨s.data⟩ := rfl
    _ = ⟨s.data.toList.toArray⟩ := by simp
    _ = ba l := by rw [h]; rfl
theorem ba_at {l : List UInt8} {i : Nat} (h : i < (ba l).size) : (ba l)[i]'h = l[i]'(by rw [← ba_size]; exact h) := by
  exact List.getElem_toArray (xs := l) (by rw [List.size_toArray, ← ba_size]; exact h)
theorem ba_pre (a b : List UInt8) : (ba (a ++ b)).extract 0 a.length = ba a := ba_of (pre_list (ba_list _))
theorem ba_suf (a b : List UInt8) (c : UInt8) : (ba (a ++ c :: b)).extract (a.length + 1) (ba (a ++ c :: b)).size = ba b := ba_of (suf_list2 (ba_list _))
theorem ba_mid (a : List UInt8) (x y : UInt8) : (ba (x :: (a ++ [y]))).extract 1 (a.length + 1) = ba a := by
  refine ba_of ?_
  rw [extract_list]
  unfold bytesIn
  rw [ba_list, List.drop_one, List.tail_cons, Nat.add_sub_cancel, List.take_left]
theorem adB_n {c : UInt8} (h : Tx.adB c) : c ≠ 91 ∧ c ≠ 93 ∧ c ≠ 37 := by
  rcases h with ⟨d, h⟩ | rfl | rfl
  · refine ⟨?_, ?_, ?_⟩ <;> (rintro rfl; cases h)
  · decide
  · decide
/-- The text of an address ahead of a port. -/
def gA (bs : List UInt8) : List UInt8 := if bs.length = 4 then Tx.adT bs else 91 :: (Tx.adT bs ++ [93])
theorem gT_gA (bs : List UInt8) (u : Nat) : gT bs u = gA bs ++ 58 :: Lib.decDigits u := rfl
theorem gA_no {bs : List UInt8} (hl : isLen bs.length) : (37 : UInt8) ∉ Tx.adT bs ∧ (91 : UInt8) ∉ Tx.adT bs ∧ (93 : UInt8) ∉ Tx.adT bs :=
  ⟨fun h => (adB_n (Tx.adB_ad hl 37 h)).2.2 rfl, fun h => (adB_n (Tx.adB_ad hl 91 h)).1 rfl, fun h => (adB_n (Tx.adB_ad hl 93 h)).2.1 rfl⟩
theorem adT_pos {bs : List UInt8} (hl : isLen bs.length) : 0 < (Tx.adT bs).length := by
  have h := Tx.pA_ad hl
  rcases e : Tx.adT bs with _ | ⟨c, r⟩
  · rw [e] at h; cases h
  · simp
theorem adT_le {bs : List UInt8} (hl : isLen bs.length) : (Tx.adT bs).length ≤ 82 := by
  rw [← ipT_ad hl]
  rcases hl with h | h
  · rw [ad4 h]
    unfold ipT
    simp only
    have := (v4t_le (281470681743360 + Lib.beNat bs)).2
    omega
  · rw [ad16 h]
    unfold ipT
    simp only
    split
    · have := (v4t_le (Lib.beNat bs % 18446744073709551616)).2
      simp [Tx.pre6]; omega
    · exact v6T_le _ _
theorem digs_no58 {D : List UInt8} (h : Digs D) : (58 : UInt8) ∉ D := fun hm => absurd (h 58 hm).2 (by decide)
/-- An address's text, a colon and digits read as that address and their number. -/
theorem gt_reads (bs D : List UInt8) (hl : isLen bs.length) (hD : D ≠ []) (hd : Digs D) (hv : numA 0 D < 65536) (hlen : D.length ≤ 1099511627776) (z : ZP) (w0 : World) (hz : Zs w0 z) :
    GReads z w0 (ba (gA bs ++ 58 :: D)) (some (bs, numA 0 D)) := by
  refine ⟨fun p hp => by injection hp with hp; subst hp; exact ⟨hl, hv⟩, fun w hb => ?_⟩
  have hno := gA_no hl
  have hpos := adT_pos hl
  have hle := adT_le hl
  have hDp : 0 < D.length := List.length_pos_iff.2 hD
  have hgl : 0 < (gA bs).length ∧ (gA bs).length ≤ 84 := by
    unfold gA
    split
    · omega
    · simp; omega
  have hlx : lix (ba (gA bs ++ 58 :: D)).data.toList 58 (ba (gA bs ++ 58 :: D)).size = (gA bs).length := by
    rw [ba_size, ba_list]; exact lix_all (digs_no58 hd)
  have hsz : (ba (gA bs ++ 58 :: D)).size = (gA bs).length + 1 + D.length := by rw [ba_size]; simp; omega
  have hu := ub_ok hD hd hv
  have hpa := Tx.pA_ad hl
  rcases Decidable.em (bs.length = 4) with h4 | h4
  · have hA : gA bs = Tx.adT bs := if_pos h4
    have hin : 0 < (ba (gA bs)).size := by rw [ba_size]; exact hgl.1
    have hx : ((ba (gA bs))[0]'hin).toNat ≠ 91 := fun h => by
      rw [ba_at] at h
      have hm := List.getElem_mem (l := gA bs) (n := 0) (by rw [← ba_size]; exact hin)
      rw [show (gA bs)[0]'(by rw [← ba_size]; exact hin) = 91 from UInt8.toNat_inj.1 h] at hm
      exact hno.2.1 (hA ▸ hm)
    refine (pp_in _ (ba (gA bs)) (ba D) false bs (numA 0 D) z w (hz.keep hb) (by rw [ba_size]; omega) (by rw [ba_size]; omega) (by rw [ba_list, hA]; exact hno.1) (fun w => ?_) (by rw [ba_list]; exact hu) hv (by rw [ba_list, hA]; exact hpa) (by rw [ad4 h4])).mono fun e w' h => h
    exact split_plain _ (ba (gA bs)) (ba D) (gA bs).length w (by rw [hsz]; omega) hlx (ba_pre _ _) (ba_suf _ _ _) (ba_size _) (by rw [hsz, ba_size]) hin (by rw [ba_size]; exact hDp) hx
  · have h16 : bs.length = 16 := by rcases hl with h | h <;> omega
    have hA : gA bs = 91 :: (Tx.adT bs ++ [93]) := if_neg h4
    have hAl : (gA bs).length = (Tx.adT bs).length + 1 + 1 := by rw [hA]; simp
    have hin : 0 < (ba (gA bs)).size := by rw [ba_size]; exact hgl.1
    have hx : ((ba (gA bs))[0]'hin).toNat = 91 := by
      rw [ba_at]
      simp [hA]
    have hmid : (ba (gA bs)).extract 1 ((Tx.adT bs).length + 1) = ba (Tx.adT bs) := by rw [hA]; exact ba_mid _ _ _
    refine (pp_in _ (ba (Tx.adT bs)) (ba D) true bs (numA 0 D) z w (hz.keep hb) (by rw [ba_size]; omega) (by rw [ba_size]; omega) (by rw [ba_list]; exact hno.1) (fun w => ?_) (by rw [ba_list]; exact hu) hv (by rw [ba_list]; exact hpa) (by rw [ad16 h16])).mono fun e w' h => h
    have hm : (ba (gA bs)).size = (Tx.adT bs).length + 1 + 1 := by rw [ba_size]; exact hAl
    have hy : ((ba (gA bs))[(Tx.adT bs).length + 1]'(by omega)).toNat = 93 := by
      rw [ba_at]
      simp [hA]
    have := split_closed _ (ba (gA bs)) (ba D) (gA bs).length w (by rw [hsz]; omega) hlx (ba_pre _ _) (ba_suf _ _ _) (ba_size _) (by rw [hsz, ba_size]) hin (by rw [ba_size]; exact hDp) hx (by omega) ((Tx.adT bs).length + 1) hm hy
    rw [hmid] at this
    exact this
/-- Texts that splitAddrPort refuses. -/
def Bad (l : List UInt8) : Prop :=
  (58 : UInt8) ∉ l ∨ ∃ A B, l = A ++ 58 :: B ∧ (58 : UInt8) ∉ B ∧ 0 < A.length ∧ (B = [] ∨ (A[0]? = some 91 ∧ (A.length < 2 ∨ A.getLast? ≠ some 93)))
theorem bad_split {l : List UInt8} (h : Bad l) (hlen : l.length ≤ 4611686018427387904) (w : World) :
    Calls Tryd.prog 23 #[.string (ba l)] w fun e w' => SplitErr e ∧ Below w.heap.size w w' := by
  have hs : (ba l).size ≤ 4611686018427387904 := by rw [ba_size]; exact hlen
  rcases h with h | ⟨A, B, rfl, hB, hA, h⟩
  · exact split_no _ w hs (by rw [ba_list]; exact h)
  · have hlx : lix (ba (A ++ 58 :: B)).data.toList 58 (ba (A ++ 58 :: B)).size = A.length := by
      rw [ba_size, ba_list]; exact lix_all hB
    have hsz : A.length + 1 + (ba B).size = (ba (A ++ 58 :: B)).size := by rw [ba_size, ba_size]; simp; omega
    have hin : 0 < (ba A).size := by rw [ba_size]; exact hA
    rcases Nat.eq_zero_or_pos B.length with hB0 | hB0
    · exact split_noport _ (ba A) (ba B) A.length w hs hlx (ba_pre _ _) (ba_suf _ _ _) (ba_size _) hsz hin (by rw [ba_size]; exact hB0)
    · rcases h with rfl | ⟨h1, h2⟩
      · simp at hB0
      · have hx : ((ba A)[0]'hin).toNat = 91 := by
          rw [ba_at]
          rw [List.getElem?_eq_getElem hA] at h1
          injection h1 with h1
          rw [h1]; rfl
        by_cases hl2 : A.length < 2
        · exact split_short _ (ba A) (ba B) A.length w hs hlx (ba_pre _ _) (ba_suf _ _ _) (ba_size _) hsz hin (by rw [ba_size]; exact hB0) hx (by rw [ba_size]; exact hl2)
        · have h3 : A.getLast? ≠ some 93 := by rcases h2 with h2 | h2; exact absurd h2 hl2; exact h2
          have hm : (ba A).size = (A.length - 1) + 1 := by rw [ba_size]; omega
          have hy : ((ba A)[A.length - 1]'(by omega)).toNat ≠ 93 := fun h => by
            rw [ba_at] at h
            apply h3
            rw [List.getLast?_eq_getElem?, List.getElem?_eq_getElem (by omega)]
            rw [show A[A.length - 1] = 93 from UInt8.toNat_inj.1 h]
          exact split_open _ (ba A) (ba B) A.length w hs hlx (ba_pre _ _) (ba_suf _ _ _) (ba_size _) hsz hin (by rw [ba_size]; exact hB0) hx (by rw [ba_size]; omega) (A.length - 1) hm hy
theorem bad_reads {l : List UInt8} (h : Bad l) (hlen : l.length ≤ 4611686018427387904) (z : ZP) (w0 : World) : GReads z w0 (ba l) none :=
  ⟨fun p hp => (by cases hp), fun w _ => pp_split (ba l) w (fun w => bad_split h hlen w)⟩
end Go.Proofs.YtaofindlomkbbaaDoor
