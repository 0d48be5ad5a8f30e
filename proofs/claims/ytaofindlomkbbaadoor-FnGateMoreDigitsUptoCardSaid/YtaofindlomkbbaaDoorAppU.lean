/-
  Contract: strconv.AppendUint(b, u, 10) at u below 65536.
-/
import Derived.Test.YtaofindlomkbbaaDoorShelfG
import Derived.Test.YtaofindlomkbbaaDoorFmt3
import Derived.Lib.AppendIntMem
import Derived.Lib.BufferKept
import Derived.Lib.OwnKind
import Derived.Lib.Slices
import Derived.BigCall
import Derived.BigGuard
import Derived.CellFam
namespace Go.Proofs.YtaofindlomkbbaaDoor
open Go Go.RowKit Go.Sort
/-- The table of the powers of ten. -/
def PW (w : World) : Prop := Lib.TabIs Tryd.prog w "internal/strconv.uint64pow10" .u64 Lib.pow10Tab
theorem PW.keep {w w' : World} (h : PW w) (hb : Below w.heap.size w w') : PW w' := by
  unfold PW Lib.TabIs World.var? at *
  cases hg : Tryd.prog.globalNamed "internal/strconv.uint64pow10" with
  | none => simp [hg] at h
  | some g =>
    simp only [hg, Option.bind_some] at h ⊢
    have hlt : g < w.heap.size := by
      rcases Nat.lt_or_ge g w.heap.size with h' | h'
      · exact h'
      · rw [Array.getElem?_eq_none h'] at h; simp at h
    rw [hb.block g hlt]
    exact h
section
variable {B : Nat} {W0 W1 w : World} {v : Value} {l : List UInt8} {ops : Array Oper} {rest : List Oper} {o : Oper} {a : Act} {Q : Exit → Act → World → Prop}
/-- append(b, x...), x a slice of bytes that can be read. -/
theorem app_cells (i : TypeInfo) (hi : Tryd.prog.info? 5 = some i) (hz : i.zero = some (.int .u8 0)) (hsize : i.size = 1) (hby : i.bytes = 1) (hgd : o.guard = none) (s x : Operand)
    (ho : o.op = .call { callee := .builtin .append, args := #[s, x], argTypes := #[22, 22] }) (hs : a.eval s = v) (l' : List UInt8) (hb : TB B W0 W1 w v l) (ad : Addr) (k c : Nat) (hk : l'.length = k)
    (hx : a.eval x = .slice (some ad) k c) (hc : ∀ (j : Nat) (u : Value), (Lib.byteCells l')[j]? = some u → w.cell? (ad.add j) = some u) (hlen : l.length + k ≤ 140737488355328)
    (h : ∀ v' w', TB B W0 W1 w' v' (l ++ l') → wpList Tryd.prog ops Q rest (a.put o.dst v') w') : wpList Tryd.prog ops Q (o :: rest) a w := by
  subst hk
  refine wpList_append_ownF _ hgd s x 22 ho B 5 i (.int .u8 0) 1 1 Tryd.underlying22 hi hz hsize hby rfl (by decide) v _ _ hs hb.own ad l'.length c (Lib.byteCells l') hx (by rw [byteCells_len, Nat.mul_one]) hc ?_ (by unfold maxLen; omega) (by omega) hb.base ?_
  · intro u hu; simp [Lib.byteCells] at hu; obtain ⟨b, _, rfl⟩ := hu; rfl
  · intro v' w' ho' hg _
    refine h v' w' (hb.grown ?_ hg)
    rw [List.length_append, show Lib.byteCells (l ++ l') = Lib.byteCells l ++ Lib.byteCells l' by simp [Lib.byteCells]]
    exact ho'
end
set_option maxHeartbeats 6400000 in
set_option maxRecDepth 100000 in
theorem appU_small (B : Nat) (v : Value) (t : List UInt8) (u : Nat) (W0 W1 w : World) (hb : TB B W0 W1 w v t) (hu : u < 100) (hlen : t.length + 20 ≤ 140737488355328) :
    Calls Tryd.prog 56 #[v, .int .u64 u, .int .i64 10] w fun e w' => ∃ v', e = .returned v' ∧ TB B W0 W1 w' v' (t ++ Lib.decDigits u) := by
  obtain ⟨i0, hi, hz0, hz1, hz2⟩ := info_parts infoU8
  have hd : (Lib.decDigits u).length ≤ 20 := by
    rw [Lib.decDigits_length]
    by_cases h10 : u < 10
    · rw [Lib.nDigits_small h10]; omega
    · rw [Lib.nDigits_big h10, Lib.nDigits_small (show u / 10 < 10 by omega)]; omega
  have hsz : (⟨(Lib.decDigits u).toArray⟩ : ByteArray).size = (Lib.decDigits u).length := by simp [ByteArray.size]
  go_enter Tryd.func56, Tryd.ntmps56
  go_wp2_with fail
  refine (Tryd.internal_strconv_small u hu w).mono ?_
  rintro e w' ⟨rfl, rfl⟩
  go_wp2_with (at_builtin; (refine app_text i0 hi hz0 hz1 hz2 rfl _ _ rfl rfl ⟨(Lib.decDigits u).toArray⟩ hb rfl (by rw [hsz]; omega) ?_; intro v2 w2 h2; have H2 := Lib.hid h2; clear h2 hb))
  go_wp2
  go_returns
  exact ⟨_, rfl, H2.out⟩
set_option maxHeartbeats 12800000 in
set_option maxRecDepth 100000 in
theorem appU_big (B : Nat) (v : Value) (t : List UInt8) (u : Nat) (W0 W1 w : World) (hb : TB B W0 W1 w v t) (hu : 100 ≤ u) (hu2 : u < 65536) (hlen : t.length + 20 ≤ 140737488355328) (htab : PW w) :
    Calls Tryd.prog 56 #[v, .int .u64 u, .int .i64 10] w fun e w' => ∃ v', e = .returned v' ∧ TB B W0 W1 w' v' (t ++ Lib.decDigits u) := by
  obtain ⟨i0, hi, hz0, hz1, hz2⟩ := info_parts infoU8
  have hu1 : 1 ≤ u := by omega
  have hu64 : u < 18446744073709551616 := by omega
  have hnd20 : Lib.nDigits u ≤ 20 := by have := Lib.numDigits_eq u hu1 hu64; split at this <;> omega
  have hal : Tryd.prog.arrayLen 120 = 24 := by kernel_rfl
  have hsl : ∀ W, (Instr.sliceAt 120 (.pointer (some ⟨w.heap.size, 0, none⟩)) none (some (.int .i64 (Lib.nDigits u : Int))) none).run Tryd.prog W = .ok (.slice (some ⟨w.heap.size, 0, none⟩) (Lib.nDigits u) 24) W := fun W => by
    rw [run_sliceAt_array_h W 120 ⟨w.heap.size, 0, none⟩ (by simp [Program.arrayLen, Program.elem, Tryd.underlying120]) .i64 (Lib.nDigits u : Int) (by omega) (by rw [hal]; omega)]
    go_simp
  have hH0 := Lib.holds_zero0 w 120 (Lib.nDigits u) (by omega)
  have hfmt := Tryd.internal_strconv_formatBase10 w.heap.size 0 24 u (Array.replicate (Lib.nDigits u) 0) (w.alloc (.cells Lib.zeros24 120)) hH0 (by rw [Array.size_replicate]; exact Lib.lt_pow_nDigits u) hu64 (by rw [Array.size_replicate]; omega)
  rw [Array.size_replicate] at hfmt
  have HH0 := Lib.hid hH0
  have HB := Lib.hid hb
  have iu : (100 : Int) ≤ (u : Int) := by omega
  clear hH0 hal hb
  go_enter Tryd.func56, Tryd.ntmps56
  go_wp2_with fail
  refine (Tryd.internal_strconv_numDigits u hu1 hu64 _ (Lib.tabIs_alloc htab _)).mono ?_
  rintro e w' ⟨rfl, rfl⟩
  go_wp2_with fail
  refine hfmt.mono ?_
  rintro e w2 ⟨rfl, k, v', dk, rfl, hF⟩
  have hcells : ∀ (j : Nat) (u' : Value), (Lib.byteCells (Lib.decDigits u))[j]? = some u' → ((putRow (fun (b : UInt8) => Value.int .u8 (b.toNat : Int)) (w.alloc (.cells Lib.zeros24 120)) w.heap.size 0 dk).drewN k).cell? ((⟨w.heap.size, 0, none⟩ : Addr).add j) = some u' := by
    intro j u' hj
    have hjl : j < (Lib.decDigits u).length := by
      have h5 := (List.getElem?_eq_some_iff.1 hj).1
      rwa [Lib.byteCells_length] at h5
    have e5 : (Lib.byteCells (Lib.decDigits u))[j]? = some (Value.int .u8 ((Lib.decDigits u)[j].toNat : Int)) := by simp [Lib.byteCells, hjl]
    rw [e5] at hj
    cases hj
    rw [Lib.row_is_numeral hF j hjl, Lib.add_plain, World.cell?_drewN]
    exact cell?_putRow (fun (b : UInt8) => Value.int .u8 (b.toNat : Int)) _ w.heap.size 0 _ dk HH0.out (by rw [hF.size, Array.size_replicate]) j (by rw [hF.size]; rw [Lib.decDigits_length] at hjl; exact hjl)
  obtain ⟨os, eo⟩ := Lib.fin_at w (.cells Lib.zeros24 120) dk k 0
  have hbW : Below w.heap.size w ((putRow (fun (b : UInt8) => Value.int .u8 (b.toNat : Int)) (w.alloc (.cells Lib.zeros24 120)) w.heap.size 0 dk).drewN k) := by rw [eo]; exact Lib.below_grow w.heap.size w (Nat.le_refl _) k os
  have hb2 := HB.out.below hbW
  generalize (putRow (fun (b : UInt8) => Value.int .u8 (b.toNat : Int)) (w.alloc (.cells Lib.zeros24 120)) w.heap.size 0 dk).drewN k = W2 at *
  clear eo HH0 hfmt HB hbW
  go_wp2_with (at_builtin; (refine app_cells i0 hi hz0 hz1 hz2 rfl _ _ rfl rfl (Lib.decDigits u) hb2 ⟨w.heap.size, 0, none⟩ (Lib.nDigits u) 24 (Lib.decDigits_length u) rfl hcells (by omega) ?_; intro v5 w5 h5; have H5 := Lib.hid h5; clear h5 hb2))
  go_wp2
  go_returns
  exact ⟨_, rfl, H5.out⟩
theorem appU_c (B : Nat) (v : Value) (t : List UInt8) (u : Nat) (W0 W1 w : World) (hb : TB B W0 W1 w v t) (hu : u < 65536) (hlen : t.length + 20 ≤ 140737488355328) (htab : PW w) :
    Calls Tryd.prog 39 #[v, .int .u64 u, .int .i64 10] w fun e w' => ∃ v', e = .returned v' ∧ TB B W0 W1 w' v' (t ++ Lib.decDigits u) := by
  have hin : Calls Tryd.prog 56 #[v, .int .u64 u, .int .i64 10] w fun e w' => ∃ v', e = .returned v' ∧ TB B W0 W1 w' v' (t ++ Lib.decDigits u) := by
    by_cases h : u < 100
    · exact appU_small B v t u W0 W1 w hb h hlen
    · exact appU_big B v t u W0 W1 w hb (by omega) hu hlen htab
  have HI := Lib.hid hin
  clear hin hb htab
  go_enter Tryd.func39, Tryd.ntmps39
  go_wp2_with fail
  refine HI.out.mono ?_
  rintro e w2 ⟨v2, rfl, h2⟩
  have H2 := Lib.hid h2
  clear h2
  go_wp2
  go_returns
  exact ⟨_, rfl, H2.out⟩
end Go.Proofs.YtaofindlomkbbaaDoor
