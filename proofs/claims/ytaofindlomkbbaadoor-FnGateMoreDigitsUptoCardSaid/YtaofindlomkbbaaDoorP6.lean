/-
  Contract: parseIPv6 at texts without a percent sign.
-/
import Derived.Test.YtaofindlomkbbaaDoorPA
import Derived.Lib.Bytealg
import Derived.Lib.SliceRun
import Derived.Deep.CutRange
import Derived.Deep.CutBlock
namespace Go.Proofs.YtaofindlomkbbaaDoor
open Go Go.RowKit
theorem indexByte_none {l : List UInt8} {c : UInt8} (h : c ∉ l) : Lib.indexByte l c = -1 := by
  induction l with
  | nil => rfl
  | cons b r ih =>
    simp only [List.mem_cons, not_or] at h
    unfold Lib.indexByte
    rw [if_neg (by simp; exact fun e => h.1 e.symm), ih h.2]
    rfl
theorem idx37 (s : ByteArray) (h : (37 : UInt8) ∉ s.data.toList) (w : World) : (callFunc 65 #[.string s, .int .u8 37]).run Tryd.prog w = .ok (.value (.int .i64 (-1))) w := by
  rw [run_callFunc_extern Tryd.func65 (by kernel_rfl) (by kernel_rfl) (by kernel_rfl) (e := Extern.BytealgIndexByte.indexByte) (by kernel_rfl), Lib.run_indexByteString]
  rw [show (Int.toNat 37).toUInt8 = (37 : UInt8) from rfl, indexByte_none h]
  rfl
/-- The place of the ellipsis, as the code has it. -/
def ellI : Option Nat → Int
  | none => -1
  | some n => n
theorem p6_eq {l : List UInt8} (h : ∀ t, l ≠ 58 :: 58 :: t) : Tx.p6 l = Tx.fin6 (Tx.loop6 8 l none []) := by
  unfold Tx.p6
  split
  · rename_i t; exact absurd rfl (h t)
  · rfl
/-- Whether a text begins with two colons. -/
def twoC : List UInt8 → Bool
  | a :: b :: _ => a == 58 && b == 58
  | _ => false
theorem twoC_true {l : List UInt8} (h : twoC l = true) : ∃ t, l = 58 :: 58 :: t := by
  match l, h with
  | a :: b :: t, h => simp [twoC] at h; exact ⟨t, by rw [h.1, h.2]⟩
theorem twoC_false {l : List UInt8} (h : twoC l = false) : ∀ t, l ≠ 58 :: 58 :: t := by
  rintro t rfl; cases h
theorem twoC_small {s : ByteArray} (h : (s.size : Int) < 2) : twoC s.data.toList = false := by
  have := str_len s
  match hl : s.data.toList with
  | [] => rfl
  | [a] => rfl
  | a :: b :: t => rw [hl] at this; simp at this; omega
theorem beq58 (b : UInt8) : (b == 58) = ((b.toNat : Int) == 58) := by
  rw [Bool.eq_iff_iff, beq_iff_eq, beq_iff_eq, ← UInt8.toNat_inj]
  show b.toNat = 58 ↔ _
  omega
theorem twoC_great {s : ByteArray} (h : (2 : Int) ≤ s.size) : twoC s.data.toList = (((s[0]'(by omega)).toNat : Int) == 58 && ((s[1]'(by omega)).toNat : Int) == 58) := by
  have e0 := at_list s 0 (by omega)
  have e1 := at_list s 1 (by omega)
  rw [List.drop_zero] at e0
  rw [e0, e1]
  simp only [twoC, beq58]
abbrev zero16 : Array Value := #[.int .u8 0, .int .u8 0, .int .u8 0, .int .u8 0, .int .u8 0, .int .u8 0, .int .u8 0, .int .u8 0, .int .u8 0, .int .u8 0, .int .u8 0, .int .u8 0, .int .u8 0, .int .u8 0, .int .u8 0, .int .u8 0]
theorem zero16_bA : zero16 = bA (List.replicate 16 0) := rfl
theorem unspec_c (z : ZP) (w : World) (hz : Zs w z) :
    Calls Tryd.prog 66 #[] w fun e w' => e = .returned (.agg #[.int .u64 0, .int .u64 0, .pointer (z.ptr (some true))]) ∧ Below w.heap.size w w' := by
  obtain ⟨s0, s1, s2, q4, q6, z4, z6, z0, hne, hne', p4, p6⟩ := hz.lay
  clear hz
  rw [ptr6]
  go_enter Tryd.func66, Tryd.ntmps66
  go_wp2
  refine bodyPost_ret (v := .agg #[.int .u64 0, .int .u64 0, .pointer (some ⟨z.b6, z.o6, none⟩)]) (by simp [results, Tryd.results66, go_sem]) rfl ?_
  exact ⟨rfl, by go_grown⟩
theorem ret_addr {fn : Func} (h : fn.results = #[.cell 2 54, .tmp 3]) (v0 v1 : Value) (rest : List Value) (g : Nat) (x : Value) (w : World) (a b c : Value)
    (hb : Blk w g 54 #[a, b, c]) : (results fn (v0 :: v1 :: .pointer (some ⟨g, 0, none⟩) :: x :: rest).toArray).run Tryd.prog w = .ok (.tuple #[.agg #[a, b, c], x]) w := by
  have r := hb.cell
  simp [results, h, go_sem, r]
theorem zero_put {w : World} {g : Nat} {a b c : Value} (h : Blk w g 54 #[a, b, c]) {x y z : Value} : Blk (((w.setCell ⟨g, 0, none⟩ x).setCell ⟨g, 1, none⟩ y).setCell ⟨g, 2, none⟩ z) g 54 #[x, y, z] := ((h.set 0 x).set 1 y).set 2 z
theorem low_put {B g : Nat} {w w' : World} (h : Below B w w') (hg : B ≤ g) {x y z : Value} : Below B w (((w'.setCell ⟨g, 0, none⟩ x).setCell ⟨g, 1, none⟩ y).setCell ⟨g, 2, none⟩ z) :=
  ((h.setCell (p := ⟨g, 0, none⟩) hg x).setCell (p := ⟨g, 1, none⟩) hg y).setCell (p := ⟨g, 2, none⟩) hg z
theorem ret6_err {w wr : World} {z : ZP} {R : Option (List UInt8)} {v0 v1 x : Value} {rest : List Value} (hb : Blk wr w.heap.size 54 #[.int .u64 0, .int .u64 0, .pointer none]) (hl : Below w.heap.size w wr) (hR : R = none) :
    bodyPost Tryd.prog Tryd.f45 (AddrPost w z R) .ret ⟨(v0 :: v1 :: .pointer (some ⟨w.heap.size, 0, none⟩) :: .iface 89 x :: rest).toArray, []⟩ (((wr.setCell ⟨w.heap.size, 0, none⟩ (.int .u64 0)).setCell ⟨w.heap.size, 1, none⟩ (.int .u64 0)).setCell ⟨w.heap.size, 2, none⟩ (.pointer none)) := by
  refine bodyPost_ret (ret_addr Tryd.results45 _ _ _ _ _ _ _ _ _ (zero_put hb)) rfl ⟨low_put hl (Nat.le_refl _), ?_⟩
  rw [hR]
  exact ⟨_, rfl⟩
theorem ret6_ok {w wr : World} {z : ZP} {R : Option (List UInt8)} {bs : List UInt8} {v0 v1 a b c : Value} {rest : List Value} (hb : Blk wr w.heap.size 54 #[.int .u64 0, .int .u64 0, .pointer none]) (hl : Below w.heap.size w wr) (hR : R = some bs) (h16 : bs.length = 16)
    (ha : a = .int .u64 (adOf bs).h) (hb' : b = .int .u64 (adOf bs).l) (hc : c = .pointer (z.ptr (adOf bs).k)) :
    bodyPost Tryd.prog Tryd.f45 (AddrPost w z R) .ret ⟨(v0 :: v1 :: .pointer (some ⟨w.heap.size, 0, none⟩) :: .nilIface :: rest).toArray, []⟩ (((wr.setCell ⟨w.heap.size, 0, none⟩ a).setCell ⟨w.heap.size, 1, none⟩ b).setCell ⟨w.heap.size, 2, none⟩ c) := by
  subst ha hb' hc
  refine bodyPost_ret (ret_addr Tryd.results45 _ _ _ _ _ _ _ _ _ (zero_put hb)) rfl ⟨low_put hl (Nat.le_refl _), ?_⟩
  rw [hR]
  exact ⟨.inr h16, rfl⟩
theorem slice16 (g l m : Nat) (hi : Int) (hh : hi = (l : Int) + m) (hl : l + m ≤ 16) (h0 : 0 < m) (w : World) : (Instr.sliceAt 94 (.pointer (some ⟨g, 0, none⟩)) (some (.int .i64 (l : Int))) (some (.int .i64 hi)) none).run Tryd.prog w = .ok (.slice (some ⟨g, l, none⟩) m (16 - l)) w := by
  subst hh
  have hA : Tryd.prog.arrayLen 94 = 16 := by kernel_rfl
  have hE : Tryd.prog.elem 94 = 5 := by kernel_rfl
  have hs : (sizeOf 5).run Tryd.prog w = .ok 1 w := by kernel_rfl
  rw [run_sliceAt_array_lh w 94 ⟨g, 0, none⟩ (by rw [hA, hE]; exact Tryd.underlying94) .i64 .i64 l _ (by omega) (by omega) (by rw [hA]; omega), hE, hs, hA]
  simp only [Result.andThen, slicedAt, Int.toNat_natCast]
  rw [show ((l : Int) + m).toNat = l + m by omega, if_neg (by omega)]
  rw [Nat.mul_one, show (⟨g, 0, none⟩ : Addr).add l = ⟨g, 0 + l, none⟩ from add_zero_off g l, Nat.zero_add, Nat.add_sub_cancel_left]
theorem suf_list (S : ByteArray) (a : Nat) : (S.extract a S.size).data.toList = S.data.toList.drop a := by
  rw [extract_list]
  unfold bytesIn
  rw [List.take_of_length_le (by rw [List.length_drop, str_len]; omega)]
theorem suf_size (S : ByteArray) (a : Nat) : (S.extract a S.size).size = S.size - a := by
  rw [← str_len, suf_list, List.length_drop, str_len]
/-- A suffix of a suffix. -/
theorem suf_in {s S : ByteArray} (a : Nat) (hS : S.size ≤ s.size) (ha : a ≤ S.size) (h : bytesIn s (s.size - S.size) s.size = S.data.toList) : bytesIn s (s.size - (S.extract a S.size).size) s.size = (S.extract a S.size).data.toList := by
  rw [suf_list, suf_size, ← h]
  unfold bytesIn
  rw [List.take_of_length_le (by rw [List.length_drop, str_len]; omega), List.take_of_length_le (by rw [List.length_drop, str_len]; omega), List.drop_drop]
  congr 1
  omega
theorem suf_at (S : ByteArray) (a : Nat) (h : a < S.size) (h0 : 0 < (S.extract a S.size).size) : ((S.extract a S.size)[0]'h0) = S[a] := by
  have e1 := at_list (S.extract a S.size) 0 h0
  rw [List.drop_zero, suf_list, at_list S a h] at e1
  injection e1 with e1 _
  exact e1.symm
theorem blk_other {w : World} {g k i : Nat} {t : TypeId} {cs : Array Value} {u : Value} (h : Blk w g t cs) (hne : g ≠ k) : Blk (w.setCell ⟨k, i, none⟩ u) g t cs := by
  unfold Blk; rw [Below.heap_setCell _ _ _ _ hne]; exact h
theorem put_two (out : List UInt8) (acc : Nat) (ha : acc < 65536) (hl : out.length + 2 ≤ 16) :
    bA ((out ++ [Tx.hi8 acc, Tx.lo8 acc]) ++ List.replicate (16 - (out ++ [Tx.hi8 acc, Tx.lo8 acc]).length) 0) = ((bA (out ++ List.replicate (16 - out.length) 0)).setIfInBounds out.length (.int .u8 ((acc : Int) / 256))).setIfInBounds (out.length + 1) (.int .u8 ((acc : Int) % 256)) := by
  have e1 : (acc : Int) / 256 = ((Tx.hi8 acc).toNat : Int) := by unfold Tx.hi8; rw [UInt8.toNat_ofNat']; omega
  have e2 : (acc : Int) % 256 = ((Tx.lo8 acc).toNat : Int) := by unfold Tx.lo8; rw [UInt8.toNat_ofNat']; omega
  rw [e1, e2, bA_set, bA_set]
  congr 1
  obtain ⟨k, hk⟩ : ∃ k, 16 - out.length = k + 2 := ⟨16 - out.length - 2, by omega⟩
  have hk2 : 16 - (out ++ [Tx.hi8 acc, Tx.lo8 acc]).length = k := by simp; omega
  rw [hk2, hk, List.replicate_succ, List.replicate_succ]
  simp
theorem blk_cells {g : Nat} {t : TypeId} : ∀ (m a b : List UInt8) (w : World), Blk w g t (bA (a ++ (m ++ b))) → Blk (w.setCells g a.length (List.replicate m.length (.int .u8 0))) g t (bA (a ++ (List.replicate m.length 0 ++ b)))
  | [], _, _, _, h => h
  | y :: m, a, b, w, h => by
    have h1 := h.set a.length (.int .u8 ((0 : UInt8).toNat : Int))
    rw [bA_set, show (a ++ (y :: m ++ b)).set a.length 0 = (a ++ [0]) ++ (m ++ b) by simp] at h1
    have h2 := blk_cells m (a ++ [0]) b _ h1
    rw [List.length_append, List.length_singleton] at h2
    rw [show a ++ (List.replicate (y :: m).length 0 ++ b) = a ++ [0] ++ (List.replicate m.length 0 ++ b) by simp [List.replicate_succ]]
    exact h2
theorem blk_cells_other {g k : Nat} {t : TypeId} {cs : Array Value} (hne : g ≠ k) : ∀ (vs : List Value) (o : Nat) (w : World), Blk w g t cs → Blk (w.setCells k o vs) g t cs
  | [], _, _, h => h
  | _ :: vs, o, _, h => blk_cells_other hne vs (o + 1) _ (blk_other h hne)
theorem low_cells {B b : Nat} {a : World} (hb : B ≤ b) : ∀ (vs : List Value) (o : Nat) (w : World), Below B a w → Below B a (w.setCells b o vs)
  | [], _, _, h => h
  | v :: vs, o, _, h => low_cells hb vs (o + 1) _ (h.setCell (p := ⟨b, o, none⟩) hb v)
/-- The bytes while those behind the ellipsis move to the end: the last of them moved, k of them left. -/
def mv6 (out : List UInt8) (e k : Nat) : List UInt8 := (out ++ List.replicate (16 - out.length) 0).take (e + k + (16 - out.length)) ++ out.drop (e + k)
theorem mv6_start {out : List UInt8} {e : Nat} (he : e ≤ out.length) (_hl : out.length ≤ 16) : mv6 out e (out.length - e) = out ++ List.replicate (16 - out.length) 0 := by
  unfold mv6
  rw [show e + (out.length - e) = out.length by omega, List.drop_length, List.append_nil, List.take_of_length_le (by simp)]
theorem mv6_len {out : List UInt8} {e k : Nat} (hk : e + k ≤ out.length) (hl : out.length ≤ 16) : (mv6 out e k).length = 16 := by
  unfold mv6; simp; omega
theorem mv6_get {out : List UInt8} {e k : Nat} (hk : e + (k + 1) ≤ out.length) (hl : out.length ≤ 16) : (mv6 out e (k + 1)).getD (e + k) 0 = out.getD (e + k) 0 := by
  unfold mv6
  simp only [List.getD_eq_getElem?_getD]
  rw [List.getElem?_append_left (by simp; omega), List.getElem?_take_of_lt (by omega), List.getElem?_append_left (by omega)]
theorem mv6_set {out : List UInt8} {e k : Nat} (hk : e + (k + 1) ≤ out.length) (_hl : out.length ≤ 16) : (mv6 out e (k + 1)).set (e + k + (16 - out.length)) (out.getD (e + k) 0) = mv6 out e k := by
  unfold mv6
  apply List.ext_getElem?
  intro i
  rw [List.getElem?_set]
  have hL : ((out ++ List.replicate (16 - out.length) 0).take (e + (k + 1) + (16 - out.length))).length = e + (k + 1) + (16 - out.length) := by simp; omega
  have hL2 : ((out ++ List.replicate (16 - out.length) 0).take (e + k + (16 - out.length))).length = e + k + (16 - out.length) := by simp; omega
  by_cases h1 : e + k + (16 - out.length) = i
  · subst h1
    rw [if_pos rfl, if_pos (by rw [List.length_append, hL]; omega), List.getElem?_append_right (by rw [hL2]; omega), hL2, Nat.sub_self, List.getElem?_drop, Nat.add_zero, List.getElem?_eq_getElem (by omega)]
    simp [List.getD_eq_getElem?_getD, List.getElem?_eq_getElem (show e + k < out.length by omega)]
  · rw [if_neg h1]
    by_cases h2 : i < e + k + (16 - out.length)
    · rw [List.getElem?_append_left (by rw [hL]; omega), List.getElem?_append_left (by rw [hL2]; omega), List.getElem?_take_of_lt (by omega), List.getElem?_take_of_lt (by omega)]
    · rw [List.getElem?_append_right (by rw [hL]; omega), List.getElem?_append_right (by rw [hL2]; omega), hL, hL2, List.getElem?_drop, List.getElem?_drop]
      congr 1; omega
theorem mv6_end {out : List UInt8} {e : Nat} (he : e ≤ out.length) : mv6 out e 0 = out.take e ++ (((out ++ List.replicate (16 - out.length) 0).drop e).take (16 - out.length) ++ out.drop e) := by
  unfold mv6
  rw [Nat.add_zero, ← List.append_assoc, List.take_add, List.take_append_of_le_length he]
theorem mid_len {out : List UInt8} {e : Nat} (he : e ≤ out.length) : (((out ++ List.replicate (16 - out.length) 0).drop e).take (16 - out.length)).length = 16 - out.length := by simp; omega
/-- The blocks behind the loop. -/
def X6 (w wr : World) (L : List UInt8) : Prop :=
  (Blk wr w.heap.size 54 #[.int .u64 0, .int .u64 0, .pointer none] ∧ Below w.heap.size w wr) ∧ Blk wr (w.heap.size + 1) 94 (bA L)
theorem x6_put {w wr : World} {L : List UInt8} (h : X6 w wr L) (i : Nat) (f : UInt8) : X6 w (wr.setCell ⟨w.heap.size + 1, i, none⟩ (.int .u8 f.toNat)) (L.set i f) :=
  ⟨⟨blk_other h.1.1 (by omega), h.1.2.setCell (p := ⟨w.heap.size + 1, i, none⟩) (by simp) _⟩, by rw [← bA_set]; exact h.2.set _ _⟩
theorem x6_clear {w wr : World} {out : List UInt8} {e : Nat} (h : X6 w wr (mv6 out e 0)) (he : e ≤ out.length) (_hl : out.length < 16) :
    X6 w (wr.setCells (w.heap.size + 1) e (List.replicate (16 - out.length) (.int .u8 0))) (out.take e ++ (List.replicate (16 - out.length) 0 ++ out.drop e)) := by
  refine ⟨⟨blk_cells_other (by omega) _ _ _ h.1.1, low_cells (by omega) _ _ _ h.1.2⟩, ?_⟩
  have h2 := h.2
  rw [mv6_end he] at h2
  have h3 := blk_cells _ _ _ _ h2
  rw [mid_len he, List.length_take, Nat.min_eq_left he] at h3
  exact h3
theorem sixteen {L : List UInt8} (h : L.length = 16) : ∃ b0 b1 b2 b3 b4 b5 b6 b7 b8 b9 b10 b11 b12 b13 b14 b15, L = [b0, b1, b2, b3, b4, b5, b6, b7, b8, b9, b10, b11, b12, b13, b14, b15] := by
  match L, h with
  | [b0, b1, b2, b3, b4, b5, b6, b7, b8, b9, b10, b11, b12, b13, b14, b15], _ => exact ⟨_, _, _, _, _, _, _, _, _, _, _, _, _, _, _, _, rfl⟩
/-- The blocks of parseIPv6: its result, and the sixteen bytes. -/
def W6 (w w1 wr : World) (out : List UInt8) : Prop :=
  (Blk wr w.heap.size 54 #[.int .u64 0, .int .u64 0, .pointer none] ∧ Below w.heap.size w wr) ∧ w1.heap.size ≤ wr.heap.size ∧ Blk wr (w.heap.size + 1) 94 (bA (out ++ List.replicate (16 - out.length) 0))
set_option maxRecDepth 100000 in
set_option maxHeartbeats 16000000 in
theorem parse6_c (s : ByteArray) (z : ZP) (w : World) (hz : Zs w z) (hs : s.size ≤ 4611686018427387904) (h37 : (37 : UInt8) ∉ s.data.toList) :
    Calls Tryd.prog 45 #[.string s] w (AddrPost w z (Tx.p6 s.data.toList)) := by
  obtain ⟨R, hR⟩ : ∃ R, R = Tx.p6 s.data.toList := ⟨_, rfl⟩
  rw [← hR]
  have HR := Lib.hid hR
  have HZ := Lib.hid hz
  have hix := fun w => idx37 s h37 w
  clear hR hz
  go_enter Tryd.func45, Tryd.ntmps45
  obtain ⟨D, hD⟩ : ∃ D : Bool, D = twoC s.data.toList := ⟨_, rfl⟩
  go_upto_region 10 with fail
  go_cut [46] from 34 to 46 (fun v wx => v = .bool D ∧ wx = (w.alloc (.cells #[.int .u64 0, .int .u64 0, .pointer none] 54)).alloc (.cells zero16 94))
  case first => as_aux_lemma =>
    have HD := Lib.hid hD
    clear hD
    by_cases h2 : (2 : Int) ≤ s.size
    · have hd := HD.out
      rw [twoC_great h2] at hd
      have HD2 := Lib.hid hd
      clear hd
      go_wp2
      all_goals (go_meet; refine ⟨?_, rfl⟩; rw [HD2.out]; simp_all)
    · have h2' : (s.size : Int) < 2 := by omega
      have hd := HD.out
      rw [twoC_small h2'] at hd
      subst hd
      go_wp2
      go_meet
      exact ⟨rfl, rfl⟩
  case rest => as_aux_lemma =>
    obtain ⟨rfl, rfl⟩ := hcut
    have hb0 : Blk ((w.alloc (.cells #[.int .u64 0, .int .u64 0, .pointer none] 54)).alloc (.cells zero16 94)) w.heap.size 54 #[.int .u64 0, .int .u64 0, .pointer none] := Blk.below (heap_alloc_new w _) ((Below.refl _ _).alloc (Nat.le_refl _) _)
    have hblk : Blk ((w.alloc (.cells #[.int .u64 0, .int .u64 0, .pointer none] 54)).alloc (.cells zero16 94)) (w.heap.size + 1) 94 (bA (List.replicate 16 0)) := by
      rw [← zero16_bA]
      have := heap_alloc_new (w.alloc (.cells #[.int .u64 0, .int .u64 0, .pointer none] 54)) (.cells zero16 94)
      rw [show (w.alloc (.cells #[.int .u64 0, .int .u64 0, .pointer none] 54)).heap.size = w.heap.size + 1 by simp] at this
      exact this
    have hbl : Below w.heap.size w ((w.alloc (.cells #[.int .u64 0, .int .u64 0, .pointer none] 54)).alloc (.cells zero16 94)) := (boxes2 w _ _).below
    generalize (w.alloc (.cells #[.int .u64 0, .int .u64 0, .pointer none] 54)).alloc (.cells zero16 94) = w1 at *
    have hlt0 := hb0.lt
    have hlt1 := hblk.lt
    have HD := Lib.hid hD
    have HB := Lib.hid (And.intro hb0 (And.intro hblk hbl))
    clear hD hb0 hblk hbl hix
    go_upto_if 46 with fail
    go_cut [4, 8] from 47 to 54 (fun v4 v8 wx => wx = w1 ∧ ∃ (S : ByteArray) (ell : Option Nat), v4 = .string S ∧ v8 = .int .i64 (ellI ell) ∧ S.size ≤ s.size ∧ Hid (R = Tx.fin6 (Tx.loop6 8 S.data.toList ell []) ∧ bytesIn s (s.size - S.size) s.size = S.data.toList ∧ (ell = none ∨ ell = some 0)))
    case first => as_aux_lemma =>
      cases D with
      | false =>
        go_wp2
        go_meet
        exact ⟨rfl, s, none, rfl, rfl, Nat.le_refl _, ⟨HR.out.trans (p6_eq (twoC_false HD.out.symm)), by rw [Nat.sub_self]; unfold bytesIn; rw [List.drop_zero, Nat.sub_zero, List.take_of_length_le (by rw [str_len]; omega)], .inl rfl⟩⟩
      | true =>
        obtain ⟨t, ht⟩ := twoC_true HD.out.symm
        have hsz : 2 ≤ s.size := by have := str_len s; rw [ht] at this; simp at this; omega
        have hszi : (2 : Int) ≤ s.size := by omega
        obtain ⟨S, hS⟩ : ∃ S, S = s.extract 2 s.size := ⟨_, rfl⟩
        have hsl := str_len s
        have hSL : S.data.toList = t := by
          rw [hS, extract_list]; unfold bytesIn; rw [ht] at hsl ⊢
          simp only [List.drop_succ_cons, List.drop_zero]
          exact List.take_of_length_le (by simp at hsl; omega)
        have hSz : S.size = s.size - 2 := by
          have := str_len S
          rw [hSL] at this; rw [ht] at hsl; simp at hsl; omega
        have hsuf : bytesIn s (s.size - S.size) s.size = S.data.toList := by
          rw [hSz, show s.size - (s.size - 2) = 2 by omega, ← extract_list, ← hS]
        have HS := Lib.hid hS
        have hSz' : S.size ≤ s.size := by omega
        clear hS
        by_cases h0 : t = []
        · have hr : R = some (List.replicate 16 0) := by rw [HR.out, ht, h0]; rfl
          have hsz2 : (s.extract 2 s.size).size = 0 := by rw [← HS.out, hSz]; rw [ht, h0] at hsl; simp at hsl; omega
          have HRR := Lib.hid hr
          clear hr hSL hSz hsuf ht hsl
          have hz1 := HZ.out.keep HB.out.2.2
          go_wp2_with fail
          refine (unspec_c z w1 hz1).mono ?_
          rintro e w2 ⟨rfl, hb2⟩
          have hbw := HB.out.2.2.trans (hb2.mono HB.out.2.2.size)
          have HB2 := Lib.hid (And.intro hbw (HB.out.1.below hb2))
          clear hb2 hbw hz1
          go_wp2_with fail
          refine (withZone_c 0 0 (some true) z w2 (HZ.out.keep HB2.out.1)).mono ?_
          rintro e w3 ⟨rfl, hb3⟩
          have hbw := HB2.out.1.trans (hb3.mono HB2.out.1.size)
          have hb0 := HB2.out.2.below hb3
          have r0 := hb0.cell
          have f0 := hb0.free
          have HB3 := Lib.hid (And.intro hbw hb0)
          clear hbw hb3 hb0
          go_wp2_with (with_reducible exact ret6_ok HB3.out.2 HB3.out.1 HRR.out rfl rfl rfl rfl)
        · have hr : R = Tx.fin6 (Tx.loop6 8 S.data.toList (some 0) []) := by
            rw [HR.out, ht, hSL]
            unfold Tx.p6
            exact if_neg h0
          have hsz2 : (((s.size - 2 : Nat) : Int) == 0) = false := by
            rw [ht] at hsl
            have : t.length ≠ 0 := fun h => h0 (List.eq_nil_of_length_eq_zero h)
            simp at hsl; simp; omega
          have HRR := Lib.hid hr
          have HSU := Lib.hid hsuf
          clear hr hSL hSz hsuf ht hsl
          go_wp2
          go_meet
          exact ⟨rfl, S, some 0, by rw [HS.out], rfl, hSz', ⟨HRR.out, HSU.out, .inr rfl⟩⟩
    case rest => as_aux_lemma =>
      obtain ⟨hwc, S0, ell0, rfl, rfl, hS0, hR0⟩ := hcut
      replace hwc := hwc.symm
      subst hwc
      go_upto_block 0 with fail
      go_cut [4, 6, 8] from 55 to 232 (fun v4 v6 v8 wx => ∃ (S : ByteArray) (ell : Option Nat) (out : List UInt8), v4 = .string S ∧ v6 = .int .i64 out.length ∧ v8 = .int .i64 (ellI ell) ∧ out.length ≤ 16 ∧ S.size ≤ s.size ∧ Hid ((∀ e, ell = some e → e ≤ out.length) ∧ (S.size = 0 → R = Tx.fin6 (some (ell, out))) ∧ (S.size ≠ 0 → R = none)) ∧ Hid (W6 w w1 wx out))
      case first => as_aux_lemma =>
        have h0 : W6 w w1 w1 [] := ⟨⟨HB.out.1, HB.out.2.2⟩, Nat.le_refl _, HB.out.2.1⟩
        have H0 := Lib.hid h0
        clear h0
        go_wp2_with fail
        go_loopw [4, 6, 8] (fun v4 v6 v8 wr => ∃ (S : ByteArray) (ell : Option Nat) (out : List UInt8) (n : Nat), v4 = .string S ∧ v6 = .int .i64 out.length ∧ v8 = .int .i64 (ellI ell) ∧ out.length + 2 * n = 16 ∧ S.size ≤ s.size ∧ (0 < S.size ∨ out.length = 0) ∧ Hid (R = Tx.fin6 (Tx.loop6 n S.data.toList ell out) ∧ bytesIn s (s.size - S.size) s.size = S.data.toList ∧ (∀ e, ell = some e → e ≤ out.length)) ∧ Hid (W6 w w1 wr out)) (fun _ i _ _ => 16 - (intOf i).toNat)
        case atStart => exact ⟨S0, ell0, [], 8, rfl, rfl, rfl, rfl, hS0, .inr rfl, ⟨hR0.out.1, hR0.out.2.1, fun e he => by rcases hR0.out.2.2 with h | h <;> rw [h] at he <;> simp at he; omega⟩, H0.out⟩
        case round => as_aux_lemma =>
          obtain ⟨S, ell, out, n, rfl, rfl, rfl, hn, hS, hne, hinv, hw6⟩ := hrel
          by_cases hn0 : n = 0
          · subst hn0
            have hl16 : out.length = 16 := by omega
            have hr : R = none := hinv.out.1
            have hSp : S.size ≠ 0 := by omega
            have HR2 := Lib.hid hr
            have HI := Lib.hid hinv.out.2.2
            have hli : ((out.length : Nat) : Int) = 16 := by omega
            clear hr
            go_wp2
            go_meet
            exact ⟨S, ell, out, rfl, by rw [hl16], rfl, by omega, hS, ⟨HI.out, fun h => absurd h hSp, fun _ => HR2.out⟩, hw6⟩
          · obtain ⟨n, rfl⟩ : ∃ m, n = m + 1 := ⟨n - 1, by omega⟩
            have hli : ((out.length : Nat) : Int) < 16 := by omega
            go_upto_block 2 with fail
            go_cut [9, 10] from 57 to 117 (fun v9 v10 wx => wx = wr ∧ ∃ off acc : Nat, v9 = .int .i64 off ∧ v10 = .int .u32 acc ∧ off ≤ S.size ∧ acc < 65536 ∧ Hid (Tx.grp S.data.toList 0 0 = some (acc, off)))
            case first => as_aux_lemma =>
              have hr1 := hinv.out.1
              unfold Tx.loop6 at hr1
              have HR1 := Lib.hid hr1
              have hb06 := hw6.out.1
              clear hr1
              go_wp2_with fail
              obtain ⟨wo, hwo⟩ : ∃ wo, wo = wr := ⟨_, rfl⟩
              rw [← hwo] at hb06 ⊢
              have HWO := Lib.hid hwo
              clear hwo
              go_loopw [9, 10] (fun v9 v10 wx => wx = wo ∧ ∃ off acc : Nat, v9 = .int .i64 off ∧ v10 = .int .u32 acc ∧ off ≤ S.size ∧ off ≤ 4 ∧ acc < 65536 ∧ Hid (acc < 16 ^ off ∧ Tx.grp S.data.toList 0 0 = Tx.grp (S.data.toList.drop off) acc off)) (fun v9 _ _ => S.size - (intOf v9).toNat)
              case atStart => exact ⟨rfl, 0, 0, rfl, rfl, Nat.zero_le _, by omega, by omega, ⟨by decide, rfl⟩⟩
              case round => as_aux_lemma =>
                obtain ⟨rfl, off, acc, rfl, rfl, hoS, ho4, hacc, hgrp⟩ := hrel
                by_cases hlt : off < S.size
                · obtain ⟨x, hx⟩ : ∃ x, x = (S[off]'hlt).toNat := ⟨_, rfl⟩
                  have hx256 : x < 256 := by rw [hx]; exact UInt8.toNat_lt _
                  have hx' : (S[off]'hlt).toNat = x := hx.symm
                  have hlt' : (off : Int) < (S.size : Int) := by omega
                  have hat := at_list S off hlt
                  have hg := hgrp.out.2
                  rw [hat] at hg
                  conv at hg => rhs; unfold Tx.grp
                  have hpw := hgrp.out.1
                  clear hat hx hgrp
                  by_cases hd1 : 48 ≤ x ∧ x ≤ 57
                  · have hv : Tx.hexv (S[off]'hlt) = some (x - 48) := by unfold Tx.hexv; rw [hx', if_pos hd1]
                    rw [hv] at hg
                    simp only at hg
                    have e1 : (48 : Int) ≤ x := by omega
                    have e2 : (x : Int) ≤ 57 := by omega
                    by_cases h3 : 3 < off
                    · rw [if_pos h3] at hg
                      have h3i : (3 : Int) < off := by omega
                      have hr : R = none := by rw [HR1.out]; unfold Tx.step; rw [hg]; rfl
                      have HP := Lib.hid hr
                      clear hr hg hv
                      have r0 := hb06.1.cell
                      have f0 := hb06.1.free
                      have HLOW := Lib.hid (And.intro hb06.1 hb06.2)
                      have HPN := Lib.hid (show R = none from HP.out)
                      have HPN := Lib.hid (show R = none from HP.out)
                      go_wp2_with (with_reducible exact ret6_err HLOW.out.1 HLOW.out.2 HPN.out)
                    · rw [if_neg h3] at hg
                      have h3i : ¬ (3 : Int) < off := by omega
                      have hpw2 : acc < 4096 := Nat.lt_of_lt_of_le hpw (Nat.pow_le_pow_right (n := 16) (by omega) (show off ≤ 3 by omega))
                      have hpw3 : acc * 16 + (x - 48) < 16 ^ (off + 1) := by rw [Nat.pow_succ]; omega
                      have HG := Lib.hid (And.intro hpw3 hg)
                      clear hg hv hpw hpw3
                      go_wp2
                      go_roundw
                      case rel => exact ⟨by first | trivial | rfl, off + 1, acc * 16 + (x - 48), by go_num, by congr 1; omega, by omega, by omega, by omega, HG.out⟩
                      case measure => simp [intOf]; omega
                  · by_cases hd2 : 97 ≤ x ∧ x ≤ 102
                    · have hv : Tx.hexv (S[off]'hlt) = some (x - 87) := by unfold Tx.hexv; rw [hx', if_neg hd1, if_pos hd2]
                      rw [hv] at hg
                      simp only at hg
                      have e1 : (48 : Int) ≤ x := by omega
                      have e2 : ¬ (x : Int) ≤ 57 := by omega
                      have e3 : (97 : Int) ≤ x := by omega
                      have e4 : (x : Int) ≤ 102 := by omega
                      by_cases h3 : 3 < off
                      · rw [if_pos h3] at hg
                        have h3i : (3 : Int) < off := by omega
                        have hr : R = none := by rw [HR1.out]; unfold Tx.step; rw [hg]; rfl
                        have HP := Lib.hid hr
                        clear hr hg hv
                        have r0 := hb06.1.cell
                        have f0 := hb06.1.free
                        have HLOW := Lib.hid (And.intro hb06.1 hb06.2)
                        have HPN := Lib.hid (show R = none from HP.out)
                        have HPN := Lib.hid (show R = none from HP.out)
                        go_wp2_with (with_reducible exact ret6_err HLOW.out.1 HLOW.out.2 HPN.out)
                      · rw [if_neg h3] at hg
                        have h3i : ¬ (3 : Int) < off := by omega
                        have hpw2 : acc < 4096 := Nat.lt_of_lt_of_le hpw (Nat.pow_le_pow_right (n := 16) (by omega) (show off ≤ 3 by omega))
                        have hpw3 : acc * 16 + (x - 87) < 16 ^ (off + 1) := by rw [Nat.pow_succ]; omega
                        have HG := Lib.hid (And.intro hpw3 hg)
                        clear hg hv hpw hpw3
                        go_wp2
                        go_roundw
                        case rel => exact ⟨by first | trivial | rfl, off + 1, acc * 16 + (x - 87), by go_num, by congr 1; omega, by omega, by omega, by omega, HG.out⟩
                        case measure => simp [intOf]; omega
                    · by_cases hd3 : 65 ≤ x ∧ x ≤ 70
                      · have hv : Tx.hexv (S[off]'hlt) = some (x - 55) := by unfold Tx.hexv; rw [hx', if_neg hd1, if_neg hd2, if_pos hd3]
                        rw [hv] at hg
                        simp only at hg
                        have e1 : (48 : Int) ≤ x := by omega
                        have e2 : ¬ (x : Int) ≤ 57 := by omega
                        have e3 : ¬ (97 : Int) ≤ x := by omega
                        have e4 : (65 : Int) ≤ x := by omega
                        have e5 : (x : Int) ≤ 70 := by omega
                        by_cases h3 : 3 < off
                        · rw [if_pos h3] at hg
                          have h3i : (3 : Int) < off := by omega
                          have hr : R = none := by rw [HR1.out]; unfold Tx.step; rw [hg]; rfl
                          have HP := Lib.hid hr
                          clear hr hg hv
                          have r0 := hb06.1.cell
                          have f0 := hb06.1.free
                          have HLOW := Lib.hid (And.intro hb06.1 hb06.2)
                          have HPN := Lib.hid (show R = none from HP.out)
                          have HPN := Lib.hid (show R = none from HP.out)
                          go_wp2_with (with_reducible exact ret6_err HLOW.out.1 HLOW.out.2 HPN.out)
                        · rw [if_neg h3] at hg
                          have h3i : ¬ (3 : Int) < off := by omega
                          have hpw2 : acc < 4096 := Nat.lt_of_lt_of_le hpw (Nat.pow_le_pow_right (n := 16) (by omega) (show off ≤ 3 by omega))
                          have hpw3 : acc * 16 + (x - 55) < 16 ^ (off + 1) := by rw [Nat.pow_succ]; omega
                          have HG := Lib.hid (And.intro hpw3 hg)
                          clear hg hv hpw hpw3
                          go_wp2
                          go_roundw
                          case rel => exact ⟨by first | trivial | rfl, off + 1, acc * 16 + (x - 55), by go_num, by congr 1; omega, by omega, by omega, by omega, HG.out⟩
                          case measure => simp [intOf]; omega
                      · have hv : Tx.hexv (S[off]'hlt) = none := by unfold Tx.hexv; rw [hx', if_neg hd1, if_neg hd2, if_neg hd3]
                        rw [hv] at hg
                        simp only at hg
                        have HG := Lib.hid hg
                        have hc : (¬ (48 : Int) ≤ x ∧ ¬ (97 : Int) ≤ x ∧ ¬ (65 : Int) ≤ x) ∨ ((48 : Int) ≤ x ∧ ¬ (x : Int) ≤ 57 ∧ ¬ (97 : Int) ≤ x ∧ ¬ (65 : Int) ≤ x) ∨ ((48 : Int) ≤ x ∧ ¬ (x : Int) ≤ 57 ∧ ¬ (97 : Int) ≤ x ∧ (65 : Int) ≤ x ∧ ¬ (x : Int) ≤ 70) ∨ ((48 : Int) ≤ x ∧ ¬ (x : Int) ≤ 57 ∧ (97 : Int) ≤ x ∧ ¬ (x : Int) ≤ 102 ∧ (65 : Int) ≤ x ∧ ¬ (x : Int) ≤ 70) := by omega
                        clear hg hv hd1 hd2 hd3 hpw
                        rcases hc with ⟨a1, a2, a3⟩ | ⟨a1, a2, a3, a4⟩ | ⟨a1, a2, a3, a4, a5⟩ | ⟨a1, a2, a3, a4, a5, a6⟩
                        all_goals
                          go_wp2
                          go_meet
                          exact ⟨HWO.out, off, acc, rfl, rfl, hoS, hacc, HG.out⟩
                · obtain rfl : off = S.size := by omega
                  have hg := hgrp.out.2
                  rw [List.drop_eq_nil_of_le (by rw [str_len]; omega)] at hg
                  have HG := Lib.hid hg
                  clear hg hgrp
                  go_wp2
                  go_meet
                  exact ⟨HWO.out, S.size, acc, rfl, rfl, hoS, hacc, HG.out⟩
            case rest => as_aux_lemma =>
              obtain ⟨hwc, off, acc, rfl, rfl, hoS, hacc, hgrp⟩ := hcut
              replace hwc := hwc.symm
              subst hwc
              have hr1 := hinv.out.1
              unfold Tx.loop6 Tx.step at hr1
              rw [hgrp.out] at hr1
              simp only at hr1
              have hb06 := hw6.out.1
              by_cases h0 : off = 0
              · subst h0
                rw [if_pos rfl] at hr1
                have HP := Lib.hid hr1
                clear hr1
                have r0 := hb06.1.cell
                have f0 := hb06.1.free
                have HLOW := Lib.hid (And.intro hb06.1 hb06.2)
                have HPN := Lib.hid (show R = none from HP.out)
                have HPN := Lib.hid (show R = none from HP.out)
                go_wp2_with (with_reducible exact ret6_err HLOW.out.1 HLOW.out.2 HPN.out)
              · rw [if_neg h0] at hr1
                have hoff0 : ((off : Int) == 0) = false := by simp; omega
                by_cases hlt : off < S.size
                · have hat := at_list S off hlt
                  rw [hat] at hr1
                  simp only at hr1
                  obtain ⟨x, hx⟩ : ∃ x, x = (S[off]'hlt).toNat := ⟨_, rfl⟩
                  have hx256 : x < 256 := by rw [hx]; exact UInt8.toNat_lt _
                  have hx' : (S[off]'hlt).toNat = x := hx.symm
                  have hlt' : (off : Int) < (S.size : Int) := by omega
                  have hck : ∀ n : Nat, n < 256 → (S[off]'hlt = UInt8.ofNat n ↔ x = n) := fun n hn => by
                    rw [← UInt8.toNat_inj, hx', UInt8.toNat_ofNat', Nat.mod_eq_of_lt hn]
                  clear hx hat h0
                  by_cases h46 : x = 46
                  · have hc46 : (S[off]'hlt) = 46 := (hck 46 (by decide)).2 h46
                    rw [if_pos hc46] at hr1
                    have hxi : ((x : Int) == 46) = true := by simp [h46]
                    clear hck hc46
                    by_cases c1 : ell = none ∧ out.length ≠ 12
                    · rw [if_pos c1] at hr1
                      have HP := Lib.hid hr1
                      have hl0 : ellI ell < 0 := by rw [c1.1]; decide
                      have hl12 : (((out.length : Nat) : Int) != 12) = true := by simp; omega
                      clear hr1 c1 h46
                      have r0 := hb06.1.cell
                      have f0 := hb06.1.free
                      have HLOW := Lib.hid (And.intro hb06.1 hb06.2)
                      have HPN := Lib.hid (show R = none from HP.out)
                      have HPN := Lib.hid (show R = none from HP.out)
                      go_wp2_with (with_reducible exact ret6_err HLOW.out.1 HLOW.out.2 HPN.out)
                    · rw [if_neg c1] at hr1
                      have hcc : (¬ ellI ell < 0) ∨ (ellI ell < 0 ∧ (((out.length : Nat) : Int) != 12) = false) := by
                        cases he : ell with
                        | none =>
                          have h12 : out.length = 12 := Classical.byContradiction fun h => c1 ⟨he, h⟩
                          exact .inr ⟨by decide, by rw [h12]; rfl⟩
                        | some e => left; show ¬ ((e : Int) < 0); omega
                      by_cases c2 : 16 < out.length + 4
                      · rw [if_pos c2] at hr1
                        have HP := Lib.hid hr1
                        have hl16 : (16 : Int) < ((out.length : Nat) : Int) + 4 := by omega
                        clear hr1 c1 h46
                        rcases hcc with hl0 | ⟨hl0, hl12⟩
                        · skip
                          have r0 := hb06.1.cell
                          have f0 := hb06.1.free
                          have HLOW := Lib.hid (And.intro hb06.1 hb06.2)
                          have HPN := Lib.hid (show R = none from HP.out)
                          have HPN := Lib.hid (show R = none from HP.out)
                          go_wp2_with (with_reducible exact ret6_err HLOW.out.1 HLOW.out.2 HPN.out)
                        · skip
                          have r0 := hb06.1.cell
                          have f0 := hb06.1.free
                          have HLOW := Lib.hid (And.intro hb06.1 hb06.2)
                          have HPN := Lib.hid (show R = none from HP.out)
                          have HPN := Lib.hid (show R = none from HP.out)
                          go_wp2_with (with_reducible exact ret6_err HLOW.out.1 HLOW.out.2 HPN.out)
                      · rw [if_neg c2] at hr1
                        have hl16 : ((out.length : Nat) : Int) + 4 ≤ 16 := by omega
                        have hsub : ((s.size : Int) - (S.size : Int)) = ((s.size - S.size : Nat) : Int) := by omega
                        have hpc := p4_c s (s.size - S.size) s.size (w.heap.size + 1) out.length (16 - out.length) 94 _ wr (by omega) (Nat.le_refl _) hs hw6.out.2.2 (by rw [bA_size]; simp; omega)
                        rw [hinv.out.2.1] at hpc
                        have hsl := fun w' => slice16 (w.heap.size + 1) out.length 4 (((out.length : Nat) : Int) + 4) (by simp) (by omega) (by omega) w'
                        have HR2 := Lib.hid hr1
                        have HPC := Lib.hid hpc
                        have HSB := Lib.hid hsub
                        have HEL := Lib.hid hinv.out.2.2
                        clear hr1 c1 h46 hpc hsub
                        rcases hcc with hl0 | ⟨hl0, hl12⟩
                        · skip
                          go_wp2_with fail
                          rw [HSB.out]
                          refine HPC.out.mono ?_
                          rintro e w2 ⟨hgr, hp⟩
                          have hb26 : Blk w2 w.heap.size 54 #[.int .u64 0, .int .u64 0, .pointer none] ∧ Below w.heap.size w w2 :=
                            ⟨hb06.1.grown hgr (by simp), hb06.2.grown hgr (by have := hb06.1.lt; omega) (by intro k hk; injection hk with hk; omega)⟩
                          cases hpp : Tx.p4 S.data.toList 0 0 [] with
                          | none =>
                            rw [hpp] at hp
                            have hrn := HR2.out
                            rw [hpp] at hrn
                            have HP := Lib.hid hrn
                            obtain ⟨xe, cs', rfl, -, -⟩ := hp
                            clear hrn hpp hgr
                            have r0 := hb26.1.cell
                            have f0 := hb26.1.free
                            have HLOW := Lib.hid (And.intro hb26.1 hb26.2)
                            have HPN := Lib.hid (show R = none from HP.out)
                            have HPN := Lib.hid (show R = none from HP.out)
                            go_wp2_with (with_reducible exact ret6_err HLOW.out.1 HLOW.out.2 HPN.out)
                          | some fs =>
                            rw [hpp] at hp
                            have hrn := HR2.out
                            rw [hpp] at hrn
                            have hrr : R = Tx.fin6 (some (ell, out ++ fs)) := hrn
                            have HRR := Lib.hid hrr
                            obtain ⟨rfl, hf4, hbk2⟩ := hp
                            have hput : putF (bA (out ++ List.replicate (16 - out.length) 0)) out.length fs = bA ((out ++ fs) ++ List.replicate (16 - (out ++ fs).length) 0) := by
                              rw [putF_bA fs out (List.replicate (16 - out.length) 0) (by simp; omega)]
                              congr 1
                              rw [List.append_assoc, List.drop_replicate, List.length_append]
                              congr 3
                              omega
                            rw [hput] at hbk2
                            have hw8 : W6 w w1 w2 (out ++ fs) := ⟨hb26, Nat.le_trans hw6.out.2.1 hgr.size, hbk2⟩
                            have HW8 := Lib.hid hw8
                            have HF4 := Lib.hid hf4
                            clear hrn hpp hgr hrr hput hbk2 hw8 hb26 hf4
                            go_wp2
                            go_meet
                            exact ⟨⟨#[]⟩, ell, out ++ fs, rfl, congrArg (Value.int .i64) (by simp [HF4.out]), rfl, by rw [List.length_append, HF4.out]; omega, Nat.zero_le _, ⟨fun e he => by have := HEL.out e he; simp; omega, fun _ => HRR.out, fun h => absurd rfl h⟩, HW8.out⟩
                        · skip
                          go_wp2_with fail
                          rw [HSB.out]
                          refine HPC.out.mono ?_
                          rintro e w2 ⟨hgr, hp⟩
                          have hb26 : Blk w2 w.heap.size 54 #[.int .u64 0, .int .u64 0, .pointer none] ∧ Below w.heap.size w w2 :=
                            ⟨hb06.1.grown hgr (by simp), hb06.2.grown hgr (by have := hb06.1.lt; omega) (by intro k hk; injection hk with hk; omega)⟩
                          cases hpp : Tx.p4 S.data.toList 0 0 [] with
                          | none =>
                            rw [hpp] at hp
                            have hrn := HR2.out
                            rw [hpp] at hrn
                            have HP := Lib.hid hrn
                            obtain ⟨xe, cs', rfl, -, -⟩ := hp
                            clear hrn hpp hgr
                            have r0 := hb26.1.cell
                            have f0 := hb26.1.free
                            have HLOW := Lib.hid (And.intro hb26.1 hb26.2)
                            have HPN := Lib.hid (show R = none from HP.out)
                            have HPN := Lib.hid (show R = none from HP.out)
                            go_wp2_with (with_reducible exact ret6_err HLOW.out.1 HLOW.out.2 HPN.out)
                          | some fs =>
                            rw [hpp] at hp
                            have hrn := HR2.out
                            rw [hpp] at hrn
                            have hrr : R = Tx.fin6 (some (ell, out ++ fs)) := hrn
                            have HRR := Lib.hid hrr
                            obtain ⟨rfl, hf4, hbk2⟩ := hp
                            have hput : putF (bA (out ++ List.replicate (16 - out.length) 0)) out.length fs = bA ((out ++ fs) ++ List.replicate (16 - (out ++ fs).length) 0) := by
                              rw [putF_bA fs out (List.replicate (16 - out.length) 0) (by simp; omega)]
                              congr 1
                              rw [List.append_assoc, List.drop_replicate, List.length_append]
                              congr 3
                              omega
                            rw [hput] at hbk2
                            have hw8 : W6 w w1 w2 (out ++ fs) := ⟨hb26, Nat.le_trans hw6.out.2.1 hgr.size, hbk2⟩
                            have HW8 := Lib.hid hw8
                            have HF4 := Lib.hid hf4
                            clear hrn hpp hgr hrr hput hbk2 hw8 hb26 hf4
                            go_wp2
                            go_meet
                            exact ⟨⟨#[]⟩, ell, out ++ fs, rfl, congrArg (Value.int .i64) (by simp [HF4.out]), rfl, by rw [List.length_append, HF4.out]; omega, Nat.zero_le _, ⟨fun e he => by have := HEL.out e he; simp; omega, fun _ => HRR.out, fun h => absurd rfl h⟩, HW8.out⟩
                  · have hc46 : ¬ (S[off]'hlt) = 46 := fun h => h46 ((hck 46 (by decide)).1 h)
                    rw [if_neg hc46] at hr1
                    have hxi : ((x : Int) == 46) = false := by simp; omega
                    clear h46 hc46
                    have hsz1 : S.size - off ≠ 0 := by omega
                    have hsuf1 := suf_in off hS hoS hinv.out.2.1
                    have hat1 := suf_at S off hlt
                    have hl1 := suf_list S off
                    have hz1 := suf_size S off
                    have HEL := Lib.hid hinv.out.2.2
                    have hx46 := hx'
                    have h0s1 : 0 < (S.extract off S.size).size := by omega
                    have hat2 := hat1 h0s1
                    have hbk := hw6.out.2.2
                    have hlo : out.length + 2 ≤ 16 := by omega
                    have hszA : (bA (out ++ List.replicate (16 - out.length) 0)).size = 16 := by rw [bA_size]; simp; omega
                    obtain ⟨ua, hua⟩ : ∃ u, (bA (out ++ List.replicate (16 - out.length) 0))[out.length]? = some u := ⟨_, Array.getElem?_eq_getElem (by omega)⟩
                    obtain ⟨ub, hub⟩ : ∃ u, (bA (out ++ List.replicate (16 - out.length) 0))[out.length + 1]? = some u := ⟨_, Array.getElem?_eq_getElem (by omega)⟩
                    have ca := hbk.cell out.length
                    have cb := hbk.cell (out.length + 1)
                    rw [hua] at ca
                    rw [hub] at cb
                    have fa := hbk.free out.length
                    have fb := hbk.free (out.length + 1)
                    have hlo16 : ((out.length : Nat) : Int) + 1 < 16 := by omega
                    have hput : bA ((out ++ [Tx.hi8 acc, Tx.lo8 acc]) ++ List.replicate (16 - (out ++ [Tx.hi8 acc, Tx.lo8 acc]).length) 0) = ((bA (out ++ List.replicate (16 - out.length) 0)).setIfInBounds out.length (.int .u8 ((acc : Int) / 256))).setIfInBounds (out.length + 1) (.int .u8 ((acc : Int) % 256)) := put_two out acc hacc hlo
                    have hw7 : W6 w w1 ((wr.setCell ⟨w.heap.size + 1, out.length, none⟩ (.int .u8 ((acc : Int) / 256))).setCell ⟨w.heap.size + 1, out.length + 1, none⟩ (.int .u8 ((acc : Int) % 256))) (out ++ [Tx.hi8 acc, Tx.lo8 acc]) := by
                      refine ⟨⟨?_, ?_⟩, ?_, ?_⟩
                      · exact blk_other (blk_other hb06.1 (by omega)) (by omega)
                      · exact (hb06.2.setCell (p := ⟨w.heap.size + 1, out.length, none⟩) (by simp) _).setCell (p := ⟨w.heap.size + 1, out.length + 1, none⟩) (by simp) _
                      · simpa [World.setCell] using hw6.out.2.1
                      · rw [hput]; exact (hbk.set _ _).set _ _
                    have HW7 := Lib.hid hw7
                    clear hw7 hput hua hub hbk hszA
                    go_upto_region 51 with fail
                    obtain ⟨S1, hS1⟩ : ∃ S1, S1 = S.extract off S.size := ⟨_, rfl⟩
                    rw [← hS1]
                    have HS1 := Lib.hid hS1
                    clear hS1
                    have hS := HS1.out
                    rw [← hS] at hsuf1 hl1 hz1
                    have hz1p : 0 < S1.size := by omega
                    have hat3 : (S1[0]'hz1p).toNat = x := by
                      have : ∀ T : ByteArray, T = S.extract off S.size → ∀ h : 0 < T.size, (T[0]'h).toNat = x := by
                        rintro T rfl h; rw [hat1 h, hx']
                      exact this S1 hS hz1p
                    have hz0 : ((S1.size : Int) == 0) = false := by rw [beq_eq_false_iff_ne]; omega
                    have HL1 := Lib.hid (And.intro hl1 (And.intro hsuf1 hz1))
                    have hS1s : S1.size ≤ s.size := by omega
                    clear hS hsuf1 hl1 hat1 hat2 hz1 h0s1 hsz1
                    by_cases h58 : x = 58
                    · have hc58 : (S[off]'hlt) = 58 := (hck 58 (by decide)).2 h58
                      rw [if_neg (by rw [hc58]; simp)] at hr1
                      have hx58 : ((x : Int) != 58) = false := by simp [h58]
                      clear h58 hc58 hck hx46
                      by_cases h1 : off + 1 = S.size
                      · rw [List.drop_eq_nil_of_le (by rw [str_len]; omega)] at hr1
                        have HP := Lib.hid hr1
                        have hz2 : ((S1.size : Int) == 1) = true := by have := HL1.out.2.2; rw [beq_iff_eq]; omega
                        clear hr1
                        have r0 := HW7.out.1.1.cell
                        have f0 := HW7.out.1.1.free
                        have HLOW := Lib.hid (And.intro HW7.out.1.1 HW7.out.1.2)
                        have HPN := Lib.hid (show R = none from HP.out)
                        have HPN := Lib.hid (show R = none from HP.out)
                        go_wp2_with (with_reducible exact ret6_err HLOW.out.1 HLOW.out.2 HPN.out)
                      · have hz2 : ((S1.size : Int) == 1) = false := by have := HL1.out.2.2; rw [beq_eq_false_iff_ne]; omega
                        have hlt1 : off + 1 < S.size := by omega
                        have hat := at_list S (off + 1) hlt1
                        rw [hat] at hr1
                        simp only at hr1
                        obtain ⟨S2, hS2⟩ : ∃ S2, S2 = S1.extract 1 S1.size := ⟨_, rfl⟩
                        have hl2 : S2.data.toList = S.data.toList.drop (off + 1) := by rw [hS2, suf_list, HL1.out.1, List.drop_drop]
                        have hz3 : S2.size = S.size - off - 1 := by rw [hS2, suf_size, HL1.out.2.2]
                        have hsf2 : bytesIn s (s.size - S2.size) s.size = S2.data.toList := by rw [hS2]; exact suf_in 1 hS1s (by have := HL1.out.2.2; omega) HL1.out.2.1
                        have hS2p : 0 < S2.size := by omega
                        obtain ⟨y, hy⟩ : ∃ y, y = (S2[0]'hS2p).toNat := ⟨_, rfl⟩
                        have hy256 : y < 256 := by rw [hy]; exact UInt8.toNat_lt _
                        have hd2 : S[off + 1]'hlt1 = (S2[0]'hS2p) := by
                          have e1 := at_list S2 0 hS2p
                          rw [List.drop_zero, hl2, hat] at e1
                          injection e1
                        have hy' : (S2[0]'hS2p).toNat = y := hy.symm
                        have hy58 : (S[off + 1]'hlt1 = 58) ↔ y = 58 := by rw [hd2, ← UInt8.toNat_inj, hy']; rfl
                        have HS2 := Lib.hid hS2
                        have HL2 := Lib.hid (And.intro hl2 (And.intro hsf2 hz3))
                        have hS2s : S2.size ≤ s.size := by omega
                        clear hS2 hl2 hz3 hsf2 hy hd2 hat
                        go_upto_region 57 with fail
                        rw [← HS2.out]
                        by_cases hy1 : y = 58
                        · rw [if_pos (hy58.2 hy1)] at hr1
                          have hy2 : ((y : Int) == 58) = true := by simp [hy1]
                          by_cases hell : ell ≠ none
                          · rw [if_pos hell] at hr1
                            have HP := Lib.hid hr1
                            have hl0 : 0 ≤ ellI ell := by
                              cases ell with
                              | none => exact absurd rfl hell
                              | some e => exact Int.natCast_nonneg e
                            clear hr1 hell hy58 hy1
                            have r0 := HW7.out.1.1.cell
                            have f0 := HW7.out.1.1.free
                            have HLOW := Lib.hid (And.intro HW7.out.1.1 HW7.out.1.2)
                            have HPN := Lib.hid (show R = none from HP.out)
                            have HPN := Lib.hid (show R = none from HP.out)
                            go_wp2_with (with_reducible exact ret6_err HLOW.out.1 HLOW.out.2 HPN.out)
                          · rw [if_neg hell] at hr1
                            have hl0 : ¬ 0 ≤ ellI ell := by
                              cases ell with
                              | none => decide
                              | some e => simp at hell
                            obtain ⟨S3, hS3⟩ : ∃ S3, S3 = S2.extract 1 S2.size := ⟨_, rfl⟩
                            have hl3 : S3.data.toList = S.data.toList.drop (off + 1 + 1) := by rw [hS3, suf_list, HL2.out.1, List.drop_drop]
                            have hz4 : S3.size = S2.size - 1 := by rw [hS3, suf_size]
                            have hsf3 : bytesIn s (s.size - S3.size) s.size = S3.data.toList := by rw [hS3]; exact suf_in 1 hS2s (by omega) HL2.out.2.1
                            have HS3 := Lib.hid hS3
                            rw [← hl3] at hr1
                            have HL3 := Lib.hid hsf3
                            have hS3s : S3.size ≤ s.size := by omega
                            clear hS3 hl3 hsf3 hy58 hy1 hell
                            go_upto_region 62 with fail
                            rw [← HS3.out]
                            by_cases h3 : S3.size = 0
                            · have hnil : S3.data.toList = [] := List.eq_nil_of_length_eq_zero (by rw [str_len]; exact h3)
                              rw [if_pos hnil] at hr1
                              have hrr : R = Tx.fin6 (some (some (out.length + 2), out ++ [Tx.hi8 acc, Tx.lo8 acc])) := hr1
                              have HRR := Lib.hid hrr
                              have hz5 : ((S3.size : Int) == 0) = true := by rw [beq_iff_eq]; omega
                              have H3 := Lib.hid h3
                              clear hr1 hrr hnil h3 hz4
                              go_wp2
                              go_meet
                              exact ⟨S3, some (out.length + 2), out ++ [Tx.hi8 acc, Tx.lo8 acc], rfl, congrArg (Value.int .i64) (by simp), rfl, by simp; omega, hS3s, ⟨fun e he => by injection he with he; simp; omega, fun _ => HRR.out, fun h => absurd H3.out h⟩, HW7.out⟩
                            · have hnil : S3.data.toList ≠ [] := fun h => h3 (by rw [← str_len, h]; rfl)
                              rw [if_neg hnil] at hr1
                              have hrr : R = Tx.fin6 (Tx.loop6 n S3.data.toList (some (out.length + 2)) (out ++ [Tx.hi8 acc, Tx.lo8 acc])) := hr1
                              have HRR := Lib.hid hrr
                              have hz5 : ((S3.size : Int) == 0) = false := by rw [beq_eq_false_iff_ne]; omega
                              have H3 : 0 < S3.size := by omega
                              clear hr1 hrr hnil h3 hz4
                              go_wp2
                              go_roundw
                              case rel => exact ⟨S3, some (out.length + 2), out ++ [Tx.hi8 acc, Tx.lo8 acc], n, rfl, congrArg (Value.int .i64) (by simp), rfl, by simp; omega, hS3s, .inl H3, ⟨HRR.out, HL3.out, fun e he => by injection he with he; simp; omega⟩, HW7.out⟩
                              case measure => simp [intOf]; omega
                        · rw [if_neg (fun h => hy1 (hy58.1 h))] at hr1
                          have hy2 : ((y : Int) == 58) = false := by simp; omega
                          have hat4 := at_list S2 0 hS2p
                          have hrr : R = Tx.fin6 (Tx.loop6 n S2.data.toList ell (out ++ [Tx.hi8 acc, Tx.lo8 acc])) := by
                            rw [HL2.out.1, at_list S (off + 1) hlt1]; exact hr1
                          have HRR := Lib.hid hrr
                          clear hr1 hrr hat4 hy58 hy1
                          go_wp2
                          go_roundw
                          case rel => exact ⟨S2, ell, out ++ [Tx.hi8 acc, Tx.lo8 acc], n, rfl, congrArg (Value.int .i64) (by simp), rfl, by simp; omega, hS2s, .inl hS2p, ⟨HRR.out, HL2.out.2.1, fun e he => by have := HEL.out e he; simp; omega⟩, HW7.out⟩
                          case measure => simp [intOf]; omega
                    · have hc58 : ¬ (S[off]'hlt) = 58 := fun h => h58 ((hck 58 (by decide)).1 h)
                      rw [if_pos hc58] at hr1
                      have HP := Lib.hid hr1
                      have hx58 : ((x : Int) != 58) = true := by simp; omega
                      clear hr1 hck hc58 h58
                      have r0 := HW7.out.1.1.cell
                      have f0 := HW7.out.1.1.free
                      have HLOW := Lib.hid (And.intro HW7.out.1.1 HW7.out.1.2)
                      have HPN := Lib.hid (show R = none from HP.out)
                      have HPN := Lib.hid (show R = none from HP.out)
                      go_wp2_with (with_reducible exact ret6_err HLOW.out.1 HLOW.out.2 HPN.out)
                · obtain rfl : off = S.size := by omega
                  rw [List.drop_eq_nil_of_le (by rw [str_len]; omega)] at hr1
                  simp only at hr1
                  have hrr : R = Tx.fin6 (some (ell, out ++ [Tx.hi8 acc, Tx.lo8 acc])) := hr1
                  have HRR := Lib.hid hrr
                  have HEL := Lib.hid hinv.out.2.2
                  clear hr1 hrr
                  have hbk := hw6.out.2.2
                  have hlo : out.length + 2 ≤ 16 := by omega
                  have hszA : (bA (out ++ List.replicate (16 - out.length) 0)).size = 16 := by rw [bA_size]; simp; omega
                  obtain ⟨ua, hua⟩ : ∃ u, (bA (out ++ List.replicate (16 - out.length) 0))[out.length]? = some u := ⟨_, Array.getElem?_eq_getElem (by omega)⟩
                  obtain ⟨ub, hub⟩ : ∃ u, (bA (out ++ List.replicate (16 - out.length) 0))[out.length + 1]? = some u := ⟨_, Array.getElem?_eq_getElem (by omega)⟩
                  have ca := hbk.cell out.length
                  have cb := hbk.cell (out.length + 1)
                  rw [hua] at ca
                  rw [hub] at cb
                  have fa := hbk.free out.length
                  have fb := hbk.free (out.length + 1)
                  have hlo16 : ((out.length : Nat) : Int) + 1 < 16 := by omega
                  have hput : bA ((out ++ [Tx.hi8 acc, Tx.lo8 acc]) ++ List.replicate (16 - (out ++ [Tx.hi8 acc, Tx.lo8 acc]).length) 0) = ((bA (out ++ List.replicate (16 - out.length) 0)).setIfInBounds out.length (.int .u8 ((acc : Int) / 256))).setIfInBounds (out.length + 1) (.int .u8 ((acc : Int) % 256)) := put_two out acc hacc hlo
                  have hw7 : W6 w w1 ((wr.setCell ⟨w.heap.size + 1, out.length, none⟩ (.int .u8 ((acc : Int) / 256))).setCell ⟨w.heap.size + 1, out.length + 1, none⟩ (.int .u8 ((acc : Int) % 256))) (out ++ [Tx.hi8 acc, Tx.lo8 acc]) := by
                    refine ⟨⟨?_, ?_⟩, ?_, ?_⟩
                    · exact blk_other (blk_other hb06.1 (by omega)) (by omega)
                    · exact (hb06.2.setCell (p := ⟨w.heap.size + 1, out.length, none⟩) (by simp) _).setCell (p := ⟨w.heap.size + 1, out.length + 1, none⟩) (by simp) _
                    · simpa [World.setCell] using hw6.out.2.1
                    · rw [hput]; exact (hbk.set _ _).set _ _
                  have HW7 := Lib.hid hw7
                  clear hw7 hput hua hub hbk hszA
                  go_upto_region 51 with fail
                  go_wp2
                  go_meet
                  exact ⟨ByteArray.empty, ell, out ++ [Tx.hi8 acc, Tx.lo8 acc], rfl, congrArg (Value.int .i64) (by simp), rfl, by simp; omega, by simp, ⟨fun e he => by have := HEL.out e he; simp; omega, fun _ => HRR.out, fun h => absurd rfl h⟩, HW7.out⟩
      case rest => as_aux_lemma =>
        obtain ⟨S, ell, out, rfl, rfl, h8, hlen, hS, hinv, hw6⟩ := hcut
        have hb06 := hw6.out.1
        have hsz2 : S.size < 9223372036854775808 := by omega
        by_cases hS0 : S.size = 0
        · have hr1 := hinv.out.2.1 hS0
          have hz0 : ((S.size : Int) != 0) = false := by rw [hS0]; rfl
          go_upto_if 242 with fail
          go_cut [14, 15] from 241 to 275 (fun _ _ wx => ∃ L : List UInt8, L.length = 16 ∧ Hid (R = some L) ∧ Hid (X6 w wx L))
          case first => as_aux_lemma =>
            unfold Tx.fin6 at hr1
            simp only at hr1
            by_cases hl : out.length < 16
            · rw [if_pos hl] at hr1
              have hli : ((out.length : Nat) : Int) < 16 := by omega
              cases ell with
              | none =>
                have h8' : _ = Value.int .i64 (-1) := h8
                subst h8'
                have HP := Lib.hid (show R = none from hr1)
                clear hr1 hinv
                have r0 := hb06.1.cell
                have f0 := hb06.1.free
                have HLOW := Lib.hid (And.intro hb06.1 hb06.2)
                have HPN := Lib.hid (show R = none from HP.out)
                have HPN := Lib.hid (show R = none from HP.out)
                go_wp2_with (with_reducible exact ret6_err HLOW.out.1 HLOW.out.2 HPN.out)
              | some e =>
                have h8' : _ = Value.int .i64 (e : Int) := h8
                subst h8'
                have hrr : R = some (out.take e ++ (List.replicate (16 - out.length) 0 ++ out.drop e)) := hr1
                have HRR := Lib.hid hrr
                have he := hinv.out.1 e rfl
                have he0 : ¬ ((e : Int) < 0) := by omega
                have hx0 : X6 w wc (mv6 out e (out.length - e)) := by rw [mv6_start he hlen]; exact ⟨hb06, hw6.out.2.2⟩
                have HX0 := Lib.hid hx0
                clear hr1 hrr hinv hx0 hb06 hw6
                go_wp2_with fail
                go_loopw [15] (fun v15 wr => ∃ k : Nat, v15 = .int .i64 ((e : Int) + k - 1) ∧ e + k ≤ out.length ∧ Hid (X6 w wr (mv6 out e k))) (fun v15 _ => (intOf v15 + 1).toNat)
                case atStart => exact ⟨out.length - e, congrArg (Value.int .i64) (by omega), by omega, HX0⟩
                case round => as_aux_lemma =>
                  obtain ⟨k, rfl, hk, hx⟩ := hrel
                  cases k with
                  | zero =>
                    have hlt : ¬ (((e : Int) + ((0 : Nat) : Int) - 1) ≥ (e : Int)) := by omega
                    have hb := hx.out.2
                    have hsl := fun w' => slice16 (w.heap.size + 1) e (16 - out.length) ((e : Int) + (16 - (out.length : Int))) (by omega) (by omega) (by omega) w'
                    have hsz : (bA (mv6 out e 0)).size = 16 := by rw [bA_size, mv6_len (by omega) hlen]
                    have hcl : ∀ ty, (Builtin.clear_ #[22] ty #[.slice (some ⟨w.heap.size + 1, e, none⟩) (16 - out.length) (16 - e)]).run Tryd.prog wr = .ok (.tuple #[]) (wr.setCells (w.heap.size + 1) e (List.replicate (16 - out.length) (.int .u8 0))) :=
                      fun ty => Lib.run_clear_slice wr _ 5 ty (.int .u8 0) Tryd.underlying22 (fun _ => by kernel_rfl) rfl rfl _ _ _ _ (by omega) (fun j hj => by rw [hb.cell, Array.getElem?_eq_getElem (by omega)]; rfl) (fun j _ => hb.free _)
                    have HX := Lib.hid (x6_clear hx.out he hl)
                    clear hx hb hsz
                    go_wp2
                    go_meet
                    exact ⟨_, by simp; omega, HRR, HX⟩
                  | succ k =>
                    have hge : ((e : Int) + ((k + 1 : Nat) : Int) - 1) ≥ (e : Int) := by omega
                    have hb := hx.out.2
                    have hsz : (bA (mv6 out e (k + 1))).size = 16 := by rw [bA_size, mv6_len hk hlen]
                    have ca := hb.cell (e + k)
                    rw [bA_get _ _ (by rw [mv6_len hk hlen]; omega), mv6_get hk hlen] at ca
                    obtain ⟨ub, hub⟩ : ∃ u, (bA (mv6 out e (k + 1)))[e + k + (16 - out.length)]? = some u := ⟨_, Array.getElem?_eq_getElem (by omega)⟩
                    have cb := hb.cell (e + k + (16 - out.length))
                    rw [hub] at cb
                    have fb := hb.free (e + k + (16 - out.length))
                    have hx2 := x6_put hx.out (e + k + (16 - out.length)) (out.getD (e + k) 0)
                    rw [mv6_set hk hlen] at hx2
                    have HX := Lib.hid hx2
                    clear hx hb hsz hub hx2
                    go_wp2
                    go_roundw
                    case rel => exact ⟨k, congrArg (Value.int .i64) (by omega), by omega, HX⟩
                    case measure => simp [intOf]; omega
            · rw [if_neg hl] at hr1
              have hli : ¬ ((out.length : Nat) : Int) < 16 := by omega
              cases ell with
              | none =>
                have h8' : _ = Value.int .i64 (-1) := h8
                subst h8'
                have HRR := Lib.hid (show R = some out from hr1)
                have HX := Lib.hid (show X6 w wc out from ⟨hb06, by have h := hw6.out.2.2; rw [show 16 - out.length = 0 by omega, List.replicate_zero, List.append_nil] at h; exact h⟩)
                clear hr1 hinv hb06 hw6
                go_wp2
                go_meet
                exact ⟨out, by omega, HRR, HX⟩
              | some e =>
                have h8' : _ = Value.int .i64 (e : Int) := h8
                subst h8'
                have HP := Lib.hid (show R = none from hr1)
                have he0 : (e : Int) ≥ 0 := by omega
                clear hr1 hinv
                have r0 := hb06.1.cell
                have f0 := hb06.1.free
                have HLOW := Lib.hid (And.intro hb06.1 hb06.2)
                have HPN := Lib.hid (show R = none from HP.out)
                have HPN := Lib.hid (show R = none from HP.out)
                go_wp2_with (with_reducible exact ret6_err HLOW.out.1 HLOW.out.2 HPN.out)
          case rest => as_aux_lemma =>
            obtain ⟨L, hL, hr, hx⟩ := hcut
            obtain ⟨b0, b1, b2, b3, b4, b5, b6, b7, b8, b9, b10, b11, b12, b13, b14, b15, rfl⟩ := sixteen hL
            have c0 : wc.cell? ⟨w.heap.size + 1, 0, none⟩ = some (.int .u8 b0.toNat) := hx.out.2.cell 0
            have c1 : wc.cell? ⟨w.heap.size + 1, 1, none⟩ = some (.int .u8 b1.toNat) := hx.out.2.cell 1
            have c2 : wc.cell? ⟨w.heap.size + 1, 2, none⟩ = some (.int .u8 b2.toNat) := hx.out.2.cell 2
            have c3 : wc.cell? ⟨w.heap.size + 1, 3, none⟩ = some (.int .u8 b3.toNat) := hx.out.2.cell 3
            have c4 : wc.cell? ⟨w.heap.size + 1, 4, none⟩ = some (.int .u8 b4.toNat) := hx.out.2.cell 4
            have c5 : wc.cell? ⟨w.heap.size + 1, 5, none⟩ = some (.int .u8 b5.toNat) := hx.out.2.cell 5
            have c6 : wc.cell? ⟨w.heap.size + 1, 6, none⟩ = some (.int .u8 b6.toNat) := hx.out.2.cell 6
            have c7 : wc.cell? ⟨w.heap.size + 1, 7, none⟩ = some (.int .u8 b7.toNat) := hx.out.2.cell 7
            have c8 : wc.cell? ⟨w.heap.size + 1, 8, none⟩ = some (.int .u8 b8.toNat) := hx.out.2.cell 8
            have c9 : wc.cell? ⟨w.heap.size + 1, 9, none⟩ = some (.int .u8 b9.toNat) := hx.out.2.cell 9
            have c10 : wc.cell? ⟨w.heap.size + 1, 10, none⟩ = some (.int .u8 b10.toNat) := hx.out.2.cell 10
            have c11 : wc.cell? ⟨w.heap.size + 1, 11, none⟩ = some (.int .u8 b11.toNat) := hx.out.2.cell 11
            have c12 : wc.cell? ⟨w.heap.size + 1, 12, none⟩ = some (.int .u8 b12.toNat) := hx.out.2.cell 12
            have c13 : wc.cell? ⟨w.heap.size + 1, 13, none⟩ = some (.int .u8 b13.toNat) := hx.out.2.cell 13
            have c14 : wc.cell? ⟨w.heap.size + 1, 14, none⟩ = some (.int .u8 b14.toNat) := hx.out.2.cell 14
            have c15 : wc.cell? ⟨w.heap.size + 1, 15, none⟩ = some (.int .u8 b15.toNat) := hx.out.2.cell 15
            have HX := Lib.hid hx.out.1
            have HRR := Lib.hid hr.out
            clear hx hr hL hb06 hw6
            go_wp2_with fail
            refine (from16_c b0 b1 b2 b3 b4 b5 b6 b7 b8 b9 b10 b11 b12 b13 b14 b15 z _ (HZ.out.keep HX.out.2)).mono ?_
            rintro e w2 ⟨rfl, hb2⟩
            have hbw := HX.out.2.trans (hb2.mono HX.out.2.size)
            have HB2 := Lib.hid (And.intro hbw (HX.out.1.below hb2))
            clear hb2 hbw c0 c1 c2 c3 c4 c5 c6 c7 c8 c9 c10 c11 c12 c13 c14 c15
            go_wp2_with fail
            refine (withZone_c _ _ (some true) z w2 (HZ.out.keep HB2.out.1)).mono ?_
            rintro e w3 ⟨rfl, hb3⟩
            have hbw := HB2.out.1.trans (hb3.mono HB2.out.1.size)
            have hb0 := HB2.out.2.below hb3
            have r0 := hb0.cell
            have f0 := hb0.free
            have HB3 := Lib.hid (And.intro hbw hb0)
            clear hbw hb3 hb0
            go_wp2_with (with_reducible exact ret6_ok HB3.out.2 HB3.out.1 HRR.out rfl rfl rfl rfl)
        · have HP := Lib.hid (hinv.out.2.2 hS0)
          have hz0 : ((S.size : Int) != 0) = true := by rw [bne_iff_ne]; omega
          clear hinv
          have r0 := hb06.1.cell
          have f0 := hb06.1.free
          have HLOW := Lib.hid (And.intro hb06.1 hb06.2)
          have HPN := Lib.hid (show R = none from HP.out)
          have HPN := Lib.hid (show R = none from HP.out)
          go_wp2_with (with_reducible exact ret6_err HLOW.out.1 HLOW.out.2 HPN.out)
end Go.Proofs.YtaofindlomkbbaaDoor
