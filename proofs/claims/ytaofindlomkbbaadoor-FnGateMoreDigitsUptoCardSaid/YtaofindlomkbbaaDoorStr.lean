/-
  Contracts: Prefix.String, Prefix.AppendTo at valid prefixes.
-/
import Derived.Test.YtaofindlomkbbaaDoorFmt3
import Derived.Test.YtaofindlomkbbaaDoorPfx
namespace Go.Proofs.YtaofindlomkbbaaDoor
open Go Go.RowKit
/-- The text of an address as the library has it. -/
def ipT (h l : Nat) : Option Bool → List UInt8
  | none => []
  | some false => v4t l
  | some true => if h = 0 ∧ l / 4294967296 = 65535 then Tx.pre6 ++ v4t l else Tx.v6T (gsOf h l) (Tx.runOf (gsOf h l))
theorem v4t_ad (b0 b1 b2 b3 : UInt8) (x : Nat) : v4t (x * 4294967296 + Lib.beNat [b0, b1, b2, b3]) = Tx.v4T b0 b1 b2 b3 := by
  have e0 : b0.toNat < 256 := b0.toNat_lt
  have e1 : b1.toNat < 256 := b1.toNat_lt
  have e2 : b2.toNat < 256 := b2.toNat_lt
  have e3 : b3.toNat < 256 := b3.toNat_lt
  have hb : Lib.beNat [b0, b1, b2, b3] = b0.toNat * 16777216 + b1.toNat * 65536 + b2.toNat * 256 + b3.toNat := by
    simp only [Lib.beNat, Lib.beFrom]
    omega
  unfold v4t v4n Tx.v4T
  rw [hb]
  simp only [Nat.reduceSub, Nat.reduceMul, Nat.reducePow, Nat.div_one]
  rw [show (x * 4294967296 + (b0.toNat * 16777216 + b1.toNat * 65536 + b2.toNat * 256 + b3.toNat)) / 16777216 % 256 = b0.toNat by omega,
    show (x * 4294967296 + (b0.toNat * 16777216 + b1.toNat * 65536 + b2.toNat * 256 + b3.toNat)) / 65536 % 256 = b1.toNat by omega,
    show (x * 4294967296 + (b0.toNat * 16777216 + b1.toNat * 65536 + b2.toNat * 256 + b3.toNat)) / 256 % 256 = b2.toNat by omega,
    show (x * 4294967296 + (b0.toNat * 16777216 + b1.toNat * 65536 + b2.toNat * 256 + b3.toNat)) % 256 = b3.toNat by omega]
theorem be8 (b0 b1 b2 b3 b4 b5 b6 b7 : UInt8) : Lib.beNat [b0, b1, b2, b3, b4, b5, b6, b7] = (b0.toNat * 256 + b1.toNat) * 281474976710656 + (b2.toNat * 256 + b3.toNat) * 4294967296 + (b4.toNat * 256 + b5.toNat) * 65536 + (b6.toNat * 256 + b7.toNat) := by
  simp only [Lib.beNat, Lib.beFrom]
  omega
set_option maxRecDepth 100000 in
theorem ipT_ad {bs : List UInt8} (hl : isLen bs.length) : ipT (adOf bs).h (adOf bs).l (adOf bs).k = Tx.adT bs := by
  rcases hl with hl | hl
  · rw [ad4 hl]
    match bs, hl with
    | [b0, b1, b2, b3], _ => exact v4t_ad b0 b1 b2 b3 65535
  · match bs, hl with
    | [b0, b1, b2, b3, b4, b5, b6, b7, b8, b9, b10, b11, b12, b13, b14, b15], _ =>
      have e : adOf [b0, b1, b2, b3, b4, b5, b6, b7, b8, b9, b10, b11, b12, b13, b14, b15] = ⟨Lib.beNat [b0, b1, b2, b3, b4, b5, b6, b7], Lib.beNat [b8, b9, b10, b11, b12, b13, b14, b15], some true⟩ := rfl
      rw [e]
      have hb : ∀ b : UInt8, b.toNat < 256 := fun b => b.toNat_lt
      have h0 := hb b0; have h1 := hb b1; have h2 := hb b2; have h3 := hb b3; have h4 := hb b4; have h5 := hb b5; have h6 := hb b6; have h7 := hb b7
      have h8 := hb b8; have h9 := hb b9; have h10 := hb b10; have h11 := hb b11; have h12 := hb b12; have h13 := hb b13; have h14 := hb b14; have h15 := hb b15
      have hh := be8 b0 b1 b2 b3 b4 b5 b6 b7
      have hll := be8 b8 b9 b10 b11 b12 b13 b14 b15
      have h32 : Lib.beNat [b8, b9, b10, b11, b12, b13, b14, b15] = ((b8.toNat * 256 + b9.toNat) * 65536 + (b10.toNat * 256 + b11.toNat)) * 4294967296 + Lib.beNat [b12, b13, b14, b15] := by
        rw [hll]; simp only [Lib.beNat, Lib.beFrom]; omega
      have hlt4 : Lib.beNat [b12, b13, b14, b15] < 4294967296 := by
        have := beNat_lt [b12, b13, b14, b15]
        rw [show ([b12, b13, b14, b15] : List UInt8).length = 4 from rfl, pow4] at this
        exact this
      have hin : Tx.in6 [b0, b1, b2, b3, b4, b5, b6, b7, b8, b9, b10, b11, b12, b13, b14, b15] = true ↔ (Lib.beNat [b0, b1, b2, b3, b4, b5, b6, b7] = 0 ∧ Lib.beNat [b8, b9, b10, b11, b12, b13, b14, b15] / 4294967296 = 65535) := by
        have hz : ∀ b : UInt8, b = 0 ↔ b.toNat = 0 := fun b => by rw [← UInt8.toNat_inj]; rfl
        have hf : ∀ b : UInt8, b = 255 ↔ b.toNat = 255 := fun b => by rw [← UInt8.toNat_inj]; rfl
        unfold Tx.in6
        rw [beq_iff_eq]
        simp only [List.take_succ_cons, List.take_zero, List.replicate_succ, List.replicate_zero, List.cons_append, List.nil_append, List.cons.injEq, and_true, hz, hf]
        rw [hh, h32]
        omega
      unfold ipT Tx.adT
      simp only
      rw [if_neg (by simp : ¬ ([b0, b1, b2, b3, b4, b5, b6, b7, b8, b9, b10, b11, b12, b13, b14, b15].length = 4))]
      by_cases hc : Tx.in6 [b0, b1, b2, b3, b4, b5, b6, b7, b8, b9, b10, b11, b12, b13, b14, b15] = true
      · rw [if_pos (hin.1 hc), if_pos hc, h32, v4t_ad]; rfl
      · rw [if_neg (fun h => hc (hin.2 h)), if_neg hc]
        have hg : gsOf (Lib.beNat [b0, b1, b2, b3, b4, b5, b6, b7]) (Lib.beNat [b8, b9, b10, b11, b12, b13, b14, b15]) = Tx.groups [b0, b1, b2, b3, b4, b5, b6, b7, b8, b9, b10, b11, b12, b13, b14, b15] := by
          unfold gsOf v6n
          rw [hh, hll]
          simp only [Tx.groups]
          simp only [Nat.reduceLT, if_true, if_false, Nat.reduceMod, Nat.reduceSub, Nat.reduceMul, Nat.reducePow, Nat.div_one]
          congr 1
          · omega
          congr 1
          · omega
          congr 1
          · omega
          congr 1
          · omega
          congr 1
          · omega
          congr 1
          · omega
          congr 1
          · omega
          congr 1
          omega
        rw [hg]
/-- string(b) of a buffer. -/
theorem TB.str {B : Nat} {W0 W1 w : World} {v : Value} {l : List UInt8} (h : TB B W0 W1 w v l) (hl : 0 < l.length) : (convert 22 9 v).run Tryd.prog w = .ok (.string ⟨l.toArray⟩) w := by
  obtain ⟨A, c, rfl⟩ := h.slice
  obtain ⟨g, o, rfl, -, hc⟩ := h.rb.2 hl
  refine run_convert_bytes_back w _ _ 5 ⟨g, o, none⟩ c l Tryd.underlying22 Tryd.underlying5 Tryd.underlying9 (fun j hj => ?_)
  have := hc j hj
  have ha : (⟨g, o, none⟩ : Addr).add j = ⟨g, o + j, none⟩ := by unfold Addr.add; split <;> simp_all
  rw [ha, this]
  simp [List.getD, hj]
theorem v4t_le (l : Nat) : 7 ≤ (v4t l).length ∧ (v4t l).length ≤ 15 := by
  have d0 := dec_le (v4n l 0)
  have d1 := dec_le (v4n l 1)
  have d2 := dec_le (v4n l 2)
  have d3 := dec_le (v4n l 3)
  have e0 := Tx.decT_len (v4n l 0)
  have e1 := Tx.decT_len (v4n l 1)
  have e2 := Tx.decT_len (v4n l 2)
  have e3 := Tx.decT_len (v4n l 3)
  unfold v4t
  simp only [List.length_append, List.length_cons]
  omega
theorem joinT_le (gs : List Nat) : (Tx.joinT gs).length ≤ 5 * gs.length := by
  induction gs with
  | nil => simp [Tx.joinT]
  | cons g r ih =>
    by_cases hr : r = []
    · subst hr; have := hex_le g; simp [Tx.joinT]; omega
    · rw [Tx.joinT_cons g hr]; have := hex_le g; simp; omega
theorem v6T_le (h l : Nat) : (Tx.v6T (gsOf h l) (Tx.runOf (gsOf h l))).length ≤ 82 := by
  have hl := gsOf_len h l
  generalize gsOf h l = gs at *
  unfold Tx.v6T
  split
  · have := joinT_le gs; omega
  · rename_i a b _
    have h1 := joinT_le (gs.take a)
    have h2 := joinT_le (gs.drop b)
    rw [List.length_take] at h1
    rw [List.length_drop] at h2
    rw [List.length_append, List.length_cons, List.length_cons]
    omega
end Go.Proofs.YtaofindlomkbbaaDoor
