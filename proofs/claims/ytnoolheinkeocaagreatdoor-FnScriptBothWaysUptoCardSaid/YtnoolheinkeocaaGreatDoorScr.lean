/-
  Contract: impl.PrefixScript at steps that read valid prefixes.
-/
import Derived.Test.YtnoolheinkeocaaGreatDoorBin
import Derived.Test.YtnoolheinkeocaaGreatDoorTwo
import Derived.Test.YtnoolheinkeocaaGreatDoorCutR
import Derived.Test.YtnoolheinkeocaaGreatDoorEach
namespace Go.Proofs.YtnoolheinkeocaaGreatDoor
open Go Go.RowKit
/-- A block has been written anew: all else that was there stands. -/
def Put (w w' : World) (g : Nat) (t : TypeId) (cs : Array Value) : Prop := w.grownBy w' (some g) ∧ Blk w' g t cs
theorem grown_below {w w1 w2 : World} {r : Option Nat} (hb : Below w.heap.size w w1) (hg : w1.grownBy w2 r) : w.grownBy w2 r :=
  ⟨hg.os.trans hb.os, hg.tape.trans hb.tape, hg.output.trans hb.output, Nat.le_trans hb.size hg.size, fun k hk hne => (hg.block k (Nat.lt_of_lt_of_le hk hb.size) hne).trans (hb.block k hk)⟩
theorem grown_cell (w : World) (g i : Nat) (u : Value) : w.grownBy (w.setCell ⟨g, i, none⟩ u) (some g) :=
  ⟨rfl, rfl, rfl, by simp [World.setCell], fun k _ hne => Below.heap_setCell _ _ _ _ (fun e => hne (by rw [e]))⟩
theorem grown_both {w w1 w2 : World} {r : Option Nat} (h1 : w.grownBy w1 r) (h2 : w1.grownBy w2 r) : w.grownBy w2 r :=
  ⟨h2.os.trans h1.os, h2.tape.trans h1.tape, h2.output.trans h1.output, Nat.le_trans h1.size h2.size, fun k hk hne => (h2.block k (Nat.lt_of_lt_of_le hk h1.size) hne).trans (h1.block k hk hne)⟩
theorem put3 {w w1 : World} {g : Nat} {t : TypeId} {x0 x1 x2 y0 y1 y2 : Value} (hb : Below w.heap.size w w1) (h : Blk w g t #[x0, x1, x2]) : Put w (((w1.setCell ⟨g, 0, none⟩ y0).setCell ⟨g, 1, none⟩ y1).setCell ⟨g, 2, none⟩ y2) g t #[y0, y1, y2] := by
  refine ⟨grown_below hb (grown_both (grown_both (grown_cell _ _ _ _) (grown_cell _ _ _ _)) (grown_cell _ _ _ _)), ?_⟩
  have := (((h.below hb).set 0 y0).set 1 y1).set 2 y2
  simpa using this
theorem put4 {w w1 : World} {g : Nat} {t : TypeId} {x0 x1 x2 x3 y0 y1 y2 y3 : Value} (hb : Below w.heap.size w w1) (h : Blk w g t #[x0, x1, x2, x3]) : Put w ((((w1.setCell ⟨g, 0, none⟩ y0).setCell ⟨g, 1, none⟩ y1).setCell ⟨g, 2, none⟩ y2).setCell ⟨g, 3, none⟩ y3) g t #[y0, y1, y2, y3] := by
  refine ⟨grown_below hb (grown_both (grown_both (grown_both (grown_cell _ _ _ _) (grown_cell _ _ _ _)) (grown_cell _ _ _ _)) (grown_cell _ _ _ _)), ?_⟩
  have := ((((h.below hb).set 0 y0).set 1 y1).set 2 y2).set 3 y3
  simpa using this
set_option maxRecDepth 100000 in
set_option maxHeartbeats 8000000 in
theorem unB4 (gA g o c : Nat) (x0 x1 x2 : Value) (b0 b1 b2 b3 : UInt8) (z : ZP) (w : World) (hz : Zs w z) (hA : Blk w gA 52 #[x0, x1, x2]) (c0 : w.cell? ⟨g, o, none⟩ = some (.int .u8 b0.toNat)) (c1 : w.cell? ⟨g, o + 1, none⟩ = some (.int .u8 b1.toNat)) (c2 : w.cell? ⟨g, o + 2, none⟩ = some (.int .u8 b2.toNat)) (c3 : w.cell? ⟨g, o + 3, none⟩ = some (.int .u8 b3.toNat)) :
    Calls Tryz.prog 31 #[.pointer (some ⟨gA, 0, none⟩), .slice (some ⟨g, o, none⟩) 4 c] w fun e w' => e = .returned .nilIface ∧ Put w w' gA 52 #[.int .u64 0, .int .u64 ((281470681743360 + Lib.beNat [b0, b1, b2, b3] : Nat) : Int), .pointer (z.ptr (some false))] := by
  go_enter Tryz.func31, Tryz.ntmps31
  go_wp2_with fail
  refine (from4_c b0 b1 b2 b3 z w hz).mono ?_
  rintro e w1 ⟨rfl, hb⟩
  have HA := Lib.hid (And.intro hb hA)
  have hA1 := hA.below hb
  have rA := hA1.cell
  have fA := hA1.free
  have lA := hA1.lt
  clear hb c0 c1 c2 c3 hA hA1 hz
  rw [ptr4]
  go_wp2
  go_returns
  exact ⟨rfl, put3 HA.out.1 HA.out.2⟩
set_option maxRecDepth 100000 in
set_option maxHeartbeats 8000000 in
theorem unB16 (gA g o c : Nat) (x0 x1 x2 : Value) (b0 b1 b2 b3 b4 b5 b6 b7 b8 b9 b10 b11 b12 b13 b14 b15 : UInt8) (z : ZP) (w : World) (hz : Zs w z) (hA : Blk w gA 52 #[x0, x1, x2]) (c0 : w.cell? ⟨g, o, none⟩ = some (.int .u8 b0.toNat)) (c1 : w.cell? ⟨g, o + 1, none⟩ = some (.int .u8 b1.toNat)) (c2 : w.cell? ⟨g, o + 2, none⟩ = some (.int .u8 b2.toNat)) (c3 : w.cell? ⟨g, o + 3, none⟩ = some (.int .u8 b3.toNat)) (c4 : w.cell? ⟨g, o + 4, none⟩ = some (.int .u8 b4.toNat)) (c5 : w.cell? ⟨g, o + 5, none⟩ = some (.int .u8 b5.toNat)) (c6 : w.cell? ⟨g, o + 6, none⟩ = some (.int .u8 b6.toNat)) (c7 : w.cell? ⟨g, o + 7, none⟩ = some (.int .u8 b7.toNat)) (c8 : w.cell? ⟨g, o + 8, none⟩ = some (.int .u8 b8.toNat)) (c9 : w.cell? ⟨g, o + 9, none⟩ = some (.int .u8 b9.toNat)) (c10 : w.cell? ⟨g, o + 10, none⟩ = some (.int .u8 b10.toNat)) (c11 : w.cell? ⟨g, o + 11, none⟩ = some (.int .u8 b11.toNat)) (c12 : w.cell? ⟨g, o + 12, none⟩ = some (.int .u8 b12.toNat)) (c13 : w.cell? ⟨g, o + 13, none⟩ = some (.int .u8 b13.toNat)) (c14 : w.cell? ⟨g, o + 14, none⟩ = some (.int .u8 b14.toNat)) (c15 : w.cell? ⟨g, o + 15, none⟩ = some (.int .u8 b15.toNat)) :
    Calls Tryz.prog 31 #[.pointer (some ⟨gA, 0, none⟩), .slice (some ⟨g, o, none⟩) 16 c] w fun e w' => e = .returned .nilIface ∧ Put w w' gA 52 #[.int .u64 (Lib.beNat [b0, b1, b2, b3, b4, b5, b6, b7]), .int .u64 (Lib.beNat [b8, b9, b10, b11, b12, b13, b14, b15]), .pointer (z.ptr (some true))] := by
  go_enter Tryz.func31, Tryz.ntmps31
  go_wp2_with fail
  refine (from16_c b0 b1 b2 b3 b4 b5 b6 b7 b8 b9 b10 b11 b12 b13 b14 b15 z w hz).mono ?_
  rintro e w1 ⟨rfl, hb⟩
  have HA := Lib.hid (And.intro hb hA)
  have hA1 := hA.below hb
  have rA := hA1.cell
  have fA := hA1.free
  have lA := hA1.lt
  clear hb c0 c1 c2 c3 c4 c5 c6 c7 c8 c9 c10 c11 c12 c13 c14 c15 hA hA1 hz
  rw [ptr6]
  go_wp2
  go_returns
  exact ⟨rfl, put3 HA.out.1 HA.out.2⟩
theorem un_c (gA : Nat) (x0 x1 x2 : Value) (A : Option Addr) (n c : Nat) (bs : List UInt8) (z : ZP) (w : World) (hz : Zs w z) (hA : Blk w gA 52 #[x0, x1, x2]) (hr : RB w A n bs) (hl : isLen bs.length) :
    Calls Tryz.prog 31 #[.pointer (some ⟨gA, 0, none⟩), .slice A n c] w fun e w' => e = .returned .nilIface ∧ Put w w' gA 52 #[.int .u64 (adOf bs).h, .int .u64 (adOf bs).l, .pointer (z.ptr (adOf bs).k)] := by
  obtain ⟨hn, hc⟩ := hr
  rcases hl with hl | hl
  · obtain rfl : n = 4 := by omega
    obtain ⟨g, o, rfl, -, hc⟩ := hc (by omega)
    match bs, hl with
    | [b0, b1, b2, b3], _ => exact unB4 gA g o c x0 x1 x2 b0 b1 b2 b3 z w hz hA (hc 0 (by omega)) (hc 1 (by omega)) (hc 2 (by omega)) (hc 3 (by omega))
  · obtain rfl : n = 16 := by omega
    obtain ⟨g, o, rfl, -, hc⟩ := hc (by omega)
    match bs, hl with
    | [b0, b1, b2, b3, b4, b5, b6, b7, b8, b9, b10, b11, b12, b13, b14, b15], _ =>
      exact unB16 gA g o c x0 x1 x2 b0 b1 b2 b3 b4 b5 b6 b7 b8 b9 b10 b11 b12 b13 b14 b15 z w hz hA (hc 0 (by omega)) (hc 1 (by omega)) (hc 2 (by omega)) (hc 3 (by omega)) (hc 4 (by omega)) (hc 5 (by omega)) (hc 6 (by omega)) (hc 7 (by omega)) (hc 8 (by omega)) (hc 9 (by omega)) (hc 10 (by omega)) (hc 11 (by omega)) (hc 12 (by omega)) (hc 13 (by omega)) (hc 14 (by omega)) (hc 15 (by omega))
end Go.Proofs.YtnoolheinkeocaaGreatDoor
namespace Go.Proofs.YtnoolheinkeocaaGreatDoor
open Go Go.RowKit
theorem RB.pre {w : World} {A : Option Addr} {m : Nat} {bs : List UInt8} {x : UInt8} (h : RB w A (m + 1) (bs ++ [x])) : RB w A m bs ∧ ∃ g o, A = some ⟨g, o, none⟩ ∧ g < w.heap.size ∧ w.cell? ⟨g, o + m, none⟩ = some (.int .u8 x.toNat) := by
  obtain ⟨hn, hc⟩ := h
  have hl : bs.length = m := by simpa using hn
  obtain ⟨g, o, hA, hg, hc⟩ := hc (by omega)
  refine ⟨⟨hl, fun _ => ⟨g, o, hA, hg, fun i hi => ?_⟩⟩, g, o, hA, hg, ?_⟩
  · rw [hc i (by omega)]
    have : (bs ++ [x]).getD i 0 = bs.getD i 0 := by simp [List.getD, List.getElem?_append_left (show i < bs.length by omega)]
    rw [this]
  · rw [hc m (by omega)]
    have : (bs ++ [x]).getD m 0 = x := by simp [List.getD, hl]
    rw [this]
set_option maxRecDepth 100000 in
set_option maxHeartbeats 8000000 in
theorem pfUn_c (gP : Nat) (x0 x1 x2 x3 : Value) (A : Option Addr) (m c : Nat) (bs : List UInt8) (k : Nat) (z : ZP) (w : World) (hz : Zs w z) (hP : Blk w gP 54 #[x0, x1, x2, x3]) (hr : RB w A (m + 1) (bs ++ [UInt8.ofNat k])) (hc : m + 1 ≤ c) (hl : isLen bs.length) (hk : k ≤ 8 * bs.length) :
    Calls Tryz.prog 14 #[.pointer (some ⟨gP, 0, none⟩), .slice A (m + 1) c] w fun e w' => e = .returned .nilIface ∧ Put w w' gP 54 #[.int .u64 (adOf bs).h, .int .u64 (adOf bs).l, .pointer (z.ptr (adOf bs).k), .int .u8 ((k + 1 : Nat) : Int)] := by
  obtain ⟨hr0, g, o, rfl, hg, hcm⟩ := hr.pre
  obtain ⟨l1, l2⟩ := bl_len hl
  have l3 : (k : Int) ≤ bl (adOf bs).k := by rw [l2]; exact_mod_cast hk
  have hk128 : k ≤ 128 := by unfold isLen at hl; omega
  have hm16 : m ≤ 16 ∧ 4 ≤ m := by have := hr0.1; unfold isLen at hl; omega
  rw [show ((UInt8.ofNat k).toNat : Int) = (k : Int) by rw [UInt8.toNat_ofNat']; omega] at hcm
  go_enter Tryz.func14, Tryz.ntmps14
  go_wp2_with fail
  obtain ⟨gA, hgA⟩ : ∃ gA, gA = w.heap.size := ⟨_, rfl⟩
  have hx0 : Blk (w.alloc (.cells #[.int .u64 0, .int .u64 0, .pointer none] 52)) w.heap.size 52 #[.int .u64 0, .int .u64 0, .pointer none] := heap_alloc_new _ _
  have hb0 : Below w.heap.size w (w.alloc (.cells #[.int .u64 0, .int .u64 0, .pointer none] 52)) := (Below.refl _ _).alloc (Nat.le_refl _) _
  generalize w.alloc (.cells #[.int .u64 0, .int .u64 0, .pointer none] 52) = w1 at *
  rw [← hgA] at hx0 ⊢
  refine (un_c gA _ _ _ _ m c bs z w1 (hz.keep hb0) hx0 (hr0.keep hb0) hl).mono ?_
  rintro e w2 ⟨rfl, hg2, hx2⟩
  have hb2 : Below w.heap.size w w2 := hb0.grown hg2 hb0.size (fun k hk => by injection hk with hk; omega)
  have hP2 := hP.below hb2
  have hcm2 := (hb2.cell (p := ⟨g, o + m, none⟩) hg).trans hcm
  have hg2' := Nat.lt_of_lt_of_le hg hb2.size
  have HB := Lib.hid (And.intro hb2 (And.intro hP2 (And.intro (hz.keep hb2) hP)))
  have lA := hx2.lt
  have hdr : Below w2.heap.size w2 w2.drew := ⟨rfl, rfl, rfl, Nat.le_refl _, fun _ _ => rfl⟩
  have rA : ∀ w', Below w2.heap.size w2 w' → ∀ i, w'.cell? ⟨gA, i, none⟩ = #[Value.int .u64 (adOf bs).h, .int .u64 (adOf bs).l, .pointer (z.ptr (adOf bs).k)][i]? := fun w' h i => (h.cell (p := ⟨gA, i, none⟩) lA).trans (hx2.cell i)
  have q1 : (0 : Int) ≤ m ∧ (m : Int) < (m : Int) + 1 := by omega
  have q2 : IntKind.i64.wrap (m : Int) = m := by rw [IntKind.wrap_i64]; omega
  have q3 : IntKind.i64.wrap (k : Int) = k := by rw [IntKind.wrap_i64]; omega
  have HQ := Lib.hid (And.intro q1 (And.intro q2 q3))
  clear hx0 hb0 hg2 hx2 hb2 hP2 hP hcm hg hr hr0 hz q1 q2 q3 hgA
  go_wp2_with fail
  refine region_tail (Below w2.heap.size w2) 10 (by kernel_rfl) (by kernel_rfl) (hdr) ?_
  simp only [List.take_succ_cons, List.take_zero, List.drop_succ_cons, List.drop_zero]
  repeat (first | (refine quiet_skip rfl ?_; (simp only [Act.put, List.setIfInBounds_toArray, List.set_cons_zero, List.set_cons_succ])) | (refine quiet_run ?_ rfl (fun w1 hw1 => ?_) ?_; rotate_left; (have r0 := rA w1 hw1; have r1 := HQ.out.1; have r2 := HQ.out.2.1; have r3 := HQ.out.2.2; have r4 := (hw1.cell (p := ⟨g, o + m, none⟩) hg2').trans hcm2; go_simp; try (with_reducible rfl)); (simp only [Act.put, List.setIfInBounds_toArray, List.set_cons_zero, List.set_cons_succ])) | (refine quiet_call ?_ ?_ ?_ rfl (fun w1 hw1 => ?_) (fun w1 hw1 => ?_) ?_; rotate_left 3; (have r0 := rA w1 hw1; have r1 := HQ.out.1; have r2 := HQ.out.2.1; have r3 := HQ.out.2.2; have r4 := (hw1.cell (p := ⟨g, o + m, none⟩) hg2').trans hcm2; go_simp; refine ⟨?_, ?_⟩ <;> with_reducible rfl); (first | (go_at_call 18; (with_reducible refine (pfFrom_c _ _ _ k z w1 (HB.out.2.2.1.keep hw1) l1 l3).mono ?_); rintro e w2 ⟨rfl, hb⟩; refine ⟨?_, hw1.trans (hb.mono hw1.size)⟩; with_reducible rfl) | (go_at_call 18; (refine (pfFrom_c _ _ _ k z w1 (HB.out.2.2.1.keep hw1) l1 l3).mono ?_); rintro e w2 ⟨rfl, hb⟩; refine ⟨?_, hw1.trans (hb.mono hw1.size)⟩; with_reducible rfl)); (simp only [Act.put, List.setIfInBounds_toArray, List.set_cons_zero, List.set_cons_succ])))
  refine wpQuiet_nil ?_
  intro w3 hw3
  have hP3 := HB.out.2.1.below hw3
  have rP := hP3.cell
  have fP := hP3.free
  have lP := hP3.lt
  have HF := Lib.hid (And.intro (HB.out.1.trans (hw3.mono HB.out.1.size)) HB.out.2.2.2)
  clear hP3 hw3 rA hdr hcm2
  go_wp2
  go_returns
  exact ⟨rfl, put4 HF.out.1 HF.out.2⟩
end Go.Proofs.YtnoolheinkeocaaGreatDoor
namespace Go.Proofs.YtnoolheinkeocaaGreatDoor
open Go Go.RowKit
theorem full_reads (p : List UInt8 × Nat) (hp : Vp p) (z : ZP) (w0 : World) (hz : Zs w0 z) : Reads z w0 ⟨(pfT p).toArray⟩ (some p) := by
  have h37 := ad_no hp.1 (c := 37) (by decide) (by decide) (by decide)
  have hpa := Tx.pA_ad hp.1
  have hle := pfT_le p hp.1
  have h128 : p.2 ≤ 128 := by have := hp.2; rcases hp.1 with h | h <;> rw [h] at this <;> omega
  have hsz : (⟨(pfT p).toArray⟩ : ByteArray).size ≤ 4611686018427387904 := by
    show (pfT p).toArray.size ≤ _
    simp; omega
  refine ⟨fun q hq => (by injection hq with hq; subst hq; exact hp), fun w hb => ?_⟩
  exact parsePf_c _ (Tx.adT p.1) p.1 p.2 z w (hz.keep hb) hsz rfl h37 hpa hp.1 hp.2
theorem pfT_pos (p : List UInt8 × Nat) : 0 < (pfT p).length := by unfold pfT; simp; omega
set_option maxRecDepth 100000 in
set_option maxHeartbeats 8000000 in
theorem pfUnT_c (gP : Nat) (x0 x1 x2 x3 : Value) (A : Option Addr) (n c : Nat) (p : List UInt8 × Nat) (z : ZP) (w : World) (hz : Zs w z) (hP : Blk w gP 54 #[x0, x1, x2, x3]) (hr : RB w A n (pfT p)) (hp : Vp p) :
    Calls Tryz.prog 15 #[.pointer (some ⟨gP, 0, none⟩), .slice A n c] w fun e w' => e = .returned .nilIface ∧ Put w w' gP 54 #[.int .u64 (adOf p.1).h, .int .u64 (adOf p.1).l, .pointer (z.ptr (adOf p.1).k), .int .u8 ((p.2 + 1 : Nat) : Int)] := by
  have hn0 : 0 < n := by have := pfT_pos p; have := hr.1; omega
  obtain ⟨g, o, rfl, hg, -⟩ := hr.2 hn0
  have hcv := sub_str hr 0 n c (by omega)
  rw [List.drop_zero, List.take_of_length_le (by have := hr.1; omega), Nat.add_zero] at hcv
  have hrd := (full_reads p hp z w hz).2 w (Below.refl _ _)
  have e0 : ((n : Int) == 0) = false := by rw [beq_eq_false_iff_ne]; omega
  have e0' : (n == 0) = false := by rw [beq_eq_false_iff_ne]; omega
  have HR := Lib.hid (And.intro hrd hP)
  clear hrd hr hz hg hP
  go_enter Tryz.func15, Tryz.ntmps15
  go_wp2_with fail
  refine HR.out.1.mono ?_
  rintro e w1 ⟨he, hb⟩
  obtain rfl : e = _ := he
  have hP1 := HR.out.2.below hb
  have rP := hP1.cell
  have fP := hP1.free
  have lP := hP1.lt
  have HB := Lib.hid hb
  clear hP1 hb hcv
  go_wp2
  go_returns
  exact ⟨rfl, put4 HB.out HR.out.2⟩
end Go.Proofs.YtnoolheinkeocaaGreatDoor
namespace Go.Proofs.YtnoolheinkeocaaGreatDoor
open Go Go.RowKit
/-- A step of a script: a text or bytes of a prefix. -/
structure St where
  bin : Bool
  a : Option Addr
  n : Nat
  c : Nat
  p : List UInt8 × Nat
def stCells (ss : List St) : List Value := ss.flatMap fun s => [.bool s.bin, .slice s.a s.n s.c]
theorem stCells_len (ss : List St) : (stCells ss).length = ss.length * 2 := by
  unfold stCells
  induction ss with
  | nil => rfl
  | cons e r ih => rw [List.flatMap_cons, List.length_append, ih, List.length_cons]; simp; omega
theorem stCells_append (a b : List St) : stCells (a ++ b) = stCells a ++ stCells b := by simp [stCells]
theorem stCells_get (ss : List St) (i : Nat) (hi : i < ss.length) : (stCells ss)[i * 2]? = some (.bool ss[i].bin) ∧ (stCells ss)[i * 2 + 1]? = some (.slice ss[i].a ss[i].n ss[i].c) := by
  induction ss generalizing i with
  | nil => simp at hi
  | cons x r ih =>
    cases i with
    | zero => exact ⟨rfl, rfl⟩
    | succ i =>
      have := ih i (by simpa using hi)
      have e1 : (i + 1) * 2 = i * 2 + 2 := by omega
      simp only [e1, stCells, List.flatMap_cons, List.cons_append, List.nil_append, List.getElem_cons_succ] at this ⊢
      exact ⟨this.1, this.2⟩
def StepOk (w : World) (s : St) : Prop := Vp s.p ∧ (s.bin = true → RB w s.a s.n (pfB s.p) ∧ s.n ≤ s.c) ∧ (s.bin = false → RB w s.a s.n (pfT s.p))
theorem StepOk.keep {w w' : World} {s : St} (h : StepOk w s) (hb : Below w.heap.size w w') : StepOk w' s := ⟨h.1, fun e => ⟨(h.2.1 e).1.keep hb, (h.2.1 e).2⟩, fun e => (h.2.2 e).keep hb⟩
/-- Steps that can be read. -/
def RSt (w : World) (A : Option Addr) (n : Nat) (ss : List St) : Prop := ss.length = n ∧ RC w A (stCells ss) ∧ ∀ s ∈ ss, StepOk w s
theorem RSt.keep {w w' : World} {A : Option Addr} {n : Nat} {ss : List St} (h : RSt w A n ss) (hb : Below w.heap.size w w') : RSt w' A n ss := ⟨h.1, h.2.1.keep hb, fun s hs => (h.2.2 s hs).keep hb⟩
theorem RSt.at {w : World} {A : Option Addr} {n : Nat} {ss : List St} (h : RSt w A n ss) {i : Nat} (hi : i < n) :
    ∃ g o s, A = some ⟨g, o, none⟩ ∧ g < w.heap.size ∧ ss[i]? = some s ∧ w.cell? ⟨g, o + i * 2, none⟩ = some (.bool s.bin) ∧ w.cell? ⟨g, o + i * 2 + 1, none⟩ = some (.slice s.a s.n s.c) ∧ StepOk w s := by
  have hl : i < ss.length := by rw [h.1]; exact hi
  obtain ⟨g, o, hA, hg, hc⟩ := h.2.1 (by rw [stCells_len]; omega)
  have he := stCells_get ss i hl
  exact ⟨g, o, ss[i], hA, hg, List.getElem?_eq_getElem hl, hc _ _ he.1, hc _ _ he.2, h.2.2 _ (List.getElem_mem hl)⟩
theorem Put.below {B g : Nat} {W0 w w' : World} {t : TypeId} {cs : Array Value} (h : Put w w' g t cs) (hb : Below B W0 w) (hB : B ≤ w.heap.size) (hg : B ≤ g) : Below B W0 w' := hb.grown h.1 hB (fun k hk => by injection hk with hk; omega)
theorem Put.own {g base size n : Nat} {w w' : World} {t e : TypeId} {cs cs0 : Array Value} {v : Value} {xs : List Value} (h : Put w w' g t cs) (h0 : Blk w g t cs0) (ho : w.ownsRow base e size v n xs) (hne : e ≠ t) : w'.ownsRow base e size v n xs := ho.kept h.1 (own_blk ho h0 hne)
theorem Put.ownPe {g B : Nat} {w w' : World} {cs cs0 : Array Value} {es : List Pe} (h : Put w w' g 54 cs) (h0 : Blk w g 54 cs0) (ho : ownPe w B es) : Go.Proofs.YtnoolheinkeocaaGreatDoor.ownPe w' B es := fun e he => by
  obtain ⟨t, ht, h1⟩ := ho e he
  exact ⟨t, ht, h.own h0 h1 (ht.ne (by decide) (by decide) (by decide))⟩
set_option maxRecDepth 100000 in
set_option maxHeartbeats 8000000 in
theorem pfScript_c (A : Option Addr) (n c : Nat) (ss : List St) (z : ZP) (w : World) (hz : Zs w z) (hl : RSt w A n ss) (hn : n ≤ 1099511627776) :
    Calls Tryz.prog 7 #[.slice A n c] w (EachPost w (ss.map fun s => (some s.p : Out))) := by
  obtain ⟨i0, hi, hz0, hz1, hz2⟩ := info_parts infoCut
  obtain ⟨os, hos⟩ : ∃ os, os = ss.map fun s => (some s.p : Out) := ⟨_, rfl⟩
  rw [← hos]
  have HOS := Lib.hid hos
  clear hos
  obtain ⟨gP, hgP⟩ : ∃ gP, gP = w.heap.size := ⟨_, rfl⟩
  have hx0 : Blk (w.alloc (.cells #[.int .u64 0, .int .u64 0, .pointer none, .int .u8 0] 54)) w.heap.size 54 #[.int .u64 0, .int .u64 0, .pointer none, .int .u8 0] := heap_alloc_new _ _
  have hb0 : Below w.heap.size w (w.alloc (.cells #[.int .u64 0, .int .u64 0, .pointer none, .int .u8 0] 54)) := (Below.refl _ _).alloc (Nat.le_refl _) _
  go_enter Tryz.func7, Tryz.ntmps7
  go_wp2_with fail
  generalize w.alloc (.cells #[.int .u64 0, .int .u64 0, .pointer none, .int .u8 0] 54) = w1 at *
  rw [← hgP] at hx0 ⊢
  have HG := Lib.hid hgP
  clear hgP
  go_loopw [3, 10] (fun v i wr => ∃ (j : Nat) (es' : List Pe) (x0 x1 x2 x3 : Value), j ≤ n ∧ i = .int .i64 j ∧ wr.ownsRow w.heap.size 40 4 v es'.length (peCells es') ∧ es'.length = j ∧ es'.map Pe.is = (os.take j).map Out.is ∧ ownPe wr w.heap.size es' ∧ Below w.heap.size w wr ∧ Blk wr gP 54 #[x0, x1, x2, x3]) (fun _ i _ => n - (intOf i).toNat)
  case atStart => exact ⟨0, [], _, _, _, _, Nat.zero_le _, rfl, World.ownsRow_nil _ _ _ _, rfl, rfl, fun e he => (by simp at he), hb0, hx0⟩
  case round =>
    obtain ⟨j, es', x0, x1, x2, x3, hj, rfl, hown, hlj, hmap, hin, hbb, hbP⟩ := hrel
    have HO := Lib.hid hown
    have HM := Lib.hid hmap
    have HI := Lib.hid hin
    have HP := Lib.hid hbP
    clear hown hmap hin hbP
    by_cases hlt : j < n
    · obtain ⟨g1, o1, s, hA, hg1, hsj, hc0, hc1, hok⟩ := (hl.keep hbb).at hlt
      subst hA
      have hoj : os[j]? = some (some s.p) := by rw [HOS.out, List.getElem?_map, hsj]; rfl
      have htk : (os.take (j + 1)).map Out.is = (os.take j).map Out.is ++ [Out.is (some s.p)] := by
        rw [List.take_add_one, hoj, Option.toList_some, List.map_append]; rfl
      have HT := Lib.hid htk
      have hxa : Below wr.heap.size wr (wr.alloc (.cells #[.bool s.bin, .slice s.a s.n s.c] 34)) := (Below.refl _ _).alloc (Nat.le_refl _) _
      have hbx : Blk (wr.alloc (.cells #[.bool s.bin, .slice s.a s.n s.c] 34)) wr.heap.size 34 #[.bool s.bin, .slice s.a s.n s.c] := heap_alloc_new _ _
      obtain ⟨gx, hgx⟩ : ∃ gx, gx = wr.heap.size := ⟨_, rfl⟩
      have HX := Lib.hid (And.intro hgx (And.intro hbx (And.intro hxa hok)))
      clear htk hsj hoj hgx hbx hxa hok
      obtain ⟨bin, sa, sn, sc, sp⟩ := s
      cases bin
      case' false =>
        go_wp2_with fail
        obtain ⟨hgx, hbx, hxa, hok⟩ := HX.out
        rw [← hgx] at hbx ⊢
        clear HX hc0 hc1 hgx
        generalize wr.alloc (.cells #[.bool false, .slice sa sn sc] 34) = w2 at *
        have hb2 := hbb.trans (hxa.mono hbb.size)
        have hP2 := HP.out.below hxa
        have hvp : Vp sp := hok.1
        refine (pfUnT_c gP x0 x1 x2 x3 sa sn sc sp z w2 (hz.keep hb2) hP2 ((hok.2.2 rfl).keep hxa) hvp).mono ?_
        rintro e w4 ⟨rfl, hput⟩
      case' true =>
        obtain ⟨m, rfl⟩ : ∃ m, sn = m + 1 := ⟨sn - 1, by have := (HX.out.2.2.2.2.1 rfl).1.1; unfold pfB at this; rw [List.length_append] at this; simp at this; omega⟩
        go_wp2_with fail
        obtain ⟨hgx, hbx, hxa, hok⟩ := HX.out
        rw [← hgx] at hbx ⊢
        clear HX hc0 hc1 hgx
        generalize wr.alloc (.cells #[.bool true, .slice sa (m + 1) sc] 34) = w2 at *
        have hb2 := hbb.trans (hxa.mono hbb.size)
        have hP2 := HP.out.below hxa
        have hvp : Vp sp := hok.1
        refine (pfUn_c gP x0 x1 x2 x3 sa m sc sp.1 sp.2 z w2 (hz.keep hb2) hP2 ((hok.2.1 rfl).1.keep hxa) (hok.2.1 rfl).2 hvp.1 hvp.2).mono ?_
        rintro e w4 ⟨rfl, hput⟩
      all_goals
        have hgPB : w.heap.size ≤ gP := by have := HG.out; omega
        have hb4 : Below w.heap.size w w4 := hput.below hb2 hb2.size hgPB
        have hbk4 := hput.2
        have hO4 := Lib.hid (hput.own hP2 (own_below HO.out hxa) (by decide))
        have hI4 := Lib.hid (hput.ownPe hP2 (HI.out.below hxa))
        have h128 : sp.2 ≤ 128 := by have := hvp.2; rcases hvp.1 with h | h <;> rw [h] at this <;> omega
        have HVP := Lib.hid hvp
        clear hput hP2 hb2 hok hxa hbx HO HI HP hbb
        have hfp : ∀ w, Zs w z → Calls Tryz.prog 16 #[.agg #[.int .u64 (adOf sp.1).h, .int .u64 (adOf sp.1).l, .pointer (z.ptr (adOf sp.1).k), .int .u8 ((sp.2 + 1 : Nat) : Int)]] w fun e w' => ∃ v, e = .returned v ∧ FreshPI w.heap.size sp.1.length sp.1 sp.2 v w' ∧ Below w.heap.size w w' := fun w hz => by
          rw [show (((sp.2 + 1 : Nat) : Int)) = (sp.2 : Int) + 1 from rfl]
          exact fromPrefix_c sp.1 sp.2 z w hz HVP.out.1 h128
        generalize ((adOf sp.1).h : Int) = y0 at *
        generalize ((adOf sp.1).l : Int) = y1 at *
        generalize z.ptr (adOf sp.1).k = y2 at *
        generalize ((sp.2 + 1 : Nat) : Int) = y3 at *
        have HFP := Lib.hid hfp
        have l4 := hbk4.lt
        have r4 : ∀ w', Below w4.heap.size w4 w' → ∀ i, w'.cell? ⟨gP, i, none⟩ = #[Value.int .u64 y0, .int .u64 y1, .pointer y2, .int .u8 y3][i]? := fun w' h i => (h.cell (p := ⟨gP, i, none⟩) l4).trans (hbk4.cell i)
        have hdr : Below w4.heap.size w4 w4.drew := ⟨rfl, rfl, rfl, Nat.le_refl _, fun _ _ => rfl⟩
        clear hfp
        go_wp2_with fail
        refine region_pick (Below w4.heap.size w4) [(0, false, none), (1, false, none), (3, false, none), (4, false, none), (2, true, none), (5, false, none), (6, true, none)] 7 (by kernel_rfl) (by kernel_rfl) (fun w w' h hb => h.trans (hb.mono h.size)) (hdr) ?_
        simp only [pickOps, List.getElem?_cons_zero, List.getElem?_cons_succ]
        repeat (first | (refine t_skip rfl ?_; (simp only [Act.put, List.setIfInBounds_toArray, List.set_cons_zero, List.set_cons_succ])) | (refine t_run ?_ rfl (fun w1 hw1 => ?_) ?_; rotate_left; (have r0 := r4 w1 hw1; go_simp; try (with_reducible rfl)); (simp only [Act.put, List.setIfInBounds_toArray, List.set_cons_zero, List.set_cons_succ])))
        refine t_fresh ?_ ?_ (fun v w' => FreshPI w.heap.size sp.1.length sp.1 sp.2 v w') (by rfl) (fun w1 hw1 => ?_) (fun v w w' h hb => h.keep hb) (fun w1 hw1 => ?_) ?_
        rotate_left 2
        (go_simp; refine ⟨?_, ?_⟩ <;> with_reducible rfl)
        (go_at_call 16; (with_reducible refine (HFP.out w1 (hz.keep (hb4.trans (hw1.mono hb4.size)))).mono ?_); rintro e w2 ⟨v8, rfl, ⟨A8, c8, t8, rfl, ht8, hown8⟩, hb8⟩; exact ⟨_, rfl, ⟨A8, c8, t8, rfl, ht8, own_mono hown8 (hb4.trans (hw1.mono hb4.size)).size⟩, hb8⟩)
        rintro v8 ⟨-, -, A8, c8, t8, rfl, -, -⟩
        (simp only [Act.put, List.setIfInBounds_toArray, List.set_cons_zero, List.set_cons_succ])
        repeat (first | (refine t_skip rfl ?_; (simp only [Act.put, List.setIfInBounds_toArray, List.set_cons_zero, List.set_cons_succ])) | (refine t_run ?_ rfl (fun w1 hw1 => ?_) ?_; rotate_left; (go_simp; try (with_reducible rfl)); (simp only [Act.put, List.setIfInBounds_toArray, List.set_cons_zero, List.set_cons_succ])))
        refine t_new (fun v w' => LitRow w.heap.size 40 4 1 [.slice A8 sp.1.length c8, .string ⟨#[]⟩, .int .i64 sp.2, .bool true] v w') (by rfl) (fun v w w' h hb => h.keep hb) (fun w1 hw1 => ?_) ?_
        refine ⟨?_, ?_, ?_, ?_, ?_⟩
        rotate_left 2
        (go_simp; first | (refine ⟨?_, ?_⟩ <;> with_reducible rfl) | with_reducible rfl)
        exact ⟨_, rfl, own_lit w1 #[.slice A8 sp.1.length c8, .string ⟨#[]⟩, .int .i64 sp.2, .bool true] _ 4 1 _ (hb4.trans (hw1.1.mono hb4.size)).size rfl (by omega)⟩
        exact (Below.refl _ _).alloc (Nat.le_refl _) _
        rintro v9 ⟨-, -, g9, rfl, -⟩
        (simp only [Act.put, List.setIfInBounds_toArray, List.set_cons_zero, List.set_cons_succ])
        intro w7 ⟨⟨hw7, hf7⟩, hl7⟩
        simp only [List.drop_succ_cons, List.drop_zero]
        obtain ⟨g', hg1', hg2', hg3'⟩ := own_some hl7.own (by omega)
        injection hg1' with hg1'
        injection hg1' with hg1'
        subst hg1'
        have hb47 := hb4.trans (hw7.mono hb4.size)
        have hO7 := own_below hO4.out hw7
        have hI7 := hI4.out.below hw7
        obtain ⟨t7, ht7, hP7⟩ := hf7.own
        have hs7 : w.heap.size ≤ w7.heap.size := hb47.size
        have HO7 := Lib.hid hO7
        have HC := Lib.hid hg3'
        have HR7 := Lib.hid (own_row_ge hO7)
        have hE7 : ownPe w7 w.heap.size (es' ++ [⟨A8, sp.1.length, c8, sp.1, sp.2, true⟩]) := fun y hy => by
          rcases List.mem_append.1 hy with hy | hy
          · exact hI7 y hy
          · simp at hy; subst hy; exact ⟨t7, ht7, hP7⟩
        have HE7 := Lib.hid hE7
        have HB7 := Lib.hid hb47
        have hbP7 := hbk4.below hw7
        have HNE := Lib.hid (own_blk hO7 hbP7 (by decide))
        clear hO7 hg3' hf7 hl7 hI7 hP7 hE7 HFP r4 hbk4 hb47 hb4 hO4 hI4
        go_wp2_with (at_builtin; refine wpList_append_own _ rfl _ _ 37 rfl w.heap.size 40 i0 (.agg #[.slice none 0 0, .string ⟨#[]⟩, .int .i64 0, .bool false]) 4 56 Tryz.underlying37 hi hz0 hz1 hz2 rfl (by decide) _ _ _ rfl HO7.out ⟨g9, 0, none⟩ _ _ [.slice A8 sp.1.length c8, .string ⟨#[]⟩, .int .i64 sp.2, .bool true] rfl rfl (fun j u hj => by rw [add_zero_off, Nat.zero_add]; exact HC.out j u hj) (by intro u hu; simp at hu; rcases hu with rfl | rfl | rfl | rfl <;> rfl) (by unfold maxLen; omega) (by omega) hs7 ?_)
        intro v3 w9 hown2 hgrow _
        have hE9 := HE7.out.grown HO7.out tag_cut hgrow
        have hbP9 : Blk w9 gP 54 #[.int .u64 y0, .int .u64 y1, .pointer y2, .int .u8 y3] := hbP7.grown hgrow (fun e => by
          rcases HNE.out with h | h
          · rw [h] at e; cases e
          · exact h e.symm)
        have hb9 : Below w.heap.size w w9 := HB7.out.grown hgrow hs7 HR7.out
        have he3 : w9.ownsRow w.heap.size 40 4 v3 (es' ++ [(⟨A8, sp.1.length, c8, sp.1, sp.2, true⟩ : Pe)]).length (peCells (es' ++ [(⟨A8, sp.1.length, c8, sp.1, sp.2, true⟩ : Pe)])) := by rw [peCells_append, List.length_append, hlj]; exact hown2
        have hm3 : (es' ++ [(⟨A8, sp.1.length, c8, sp.1, sp.2, true⟩ : Pe)]).map Pe.is = (os.take (j + 1)).map Out.is := by rw [HT.out, List.map_append, HM.out]; rfl
        have hl3 : (es' ++ [(⟨A8, sp.1.length, c8, sp.1, sp.2, true⟩ : Pe)]).length = j + 1 := by rw [List.length_append, hlj]; rfl
        generalize es' ++ [(⟨A8, sp.1.length, c8, sp.1, sp.2, true⟩ : Pe)] = es3 at *
        have G1 := Lib.hid hE9
        have G2 := Lib.hid he3
        have G3 := Lib.hid hm3
        have G4 := Lib.hid hl3
        clear hE9 he3 hm3 hown2 hgrow HO7 HE7 HC hl3
        go_wp2
        go_roundw
        case rel => exact ⟨j + 1, es3, _, _, _, _, by omega, by go_num, G2.out, G4.out, G3.out, G1.out, hb9, hbP9⟩
        case measure => simp [intOf]; omega
    · obtain rfl : j = n := by omega
      have hm3 := HM.out
      rw [List.take_of_length_le (by rw [HOS.out, List.length_map, hl.1]; exact Nat.le_refl _)] at hm3
      obtain ⟨A', c', rfl⟩ := own_slice HO.out
      have HM3 := Lib.hid hm3
      clear hm3
      go_wp2
      go_returns
      exact ⟨A', c', es', rfl, HO.out, HM3.out, HI.out, hbb⟩
end Go.Proofs.YtnoolheinkeocaaGreatDoor
