/-
  Contract: parseIPv4; words for what the parsers answer.
-/
import Derived.Test.YtaofindlomkbbaaDoorP4
import Derived.Test.YtaofindlomkbbaaDoorAddr
import Derived.Test.YtaofindlomkbbaaDoorMem
namespace Go.Proofs.YtaofindlomkbbaaDoor
open Go Go.RowKit
/-- Bytes as an array of cells. -/
def bA (l : List UInt8) : Array Value := (Lib.byteCells l).toArray
theorem bA_size (l : List UInt8) : (bA l).size = l.length := by simp [bA, Lib.byteCells]
theorem bA_set (l : List UInt8) (i : Nat) (f : UInt8) : (bA l).setIfInBounds i (.int .u8 f.toNat) = bA (l.set i f) := by
  simp [bA, Lib.byteCells, List.map_set]
theorem bA_get (l : List UInt8) (i : Nat) (h : i < l.length) : (bA l)[i]? = some (.int .u8 (l.getD i 0).toNat) := by
  rw [bA, List.getElem?_toArray]; exact byteCells_get l i h
theorem putF_bA (fs : List UInt8) : ∀ (a b : List UInt8), fs.length ≤ b.length → putF (bA (a ++ b)) a.length fs = bA (a ++ (fs ++ b.drop fs.length)) := by
  induction fs with
  | nil => intro a b _; simp [putF]
  | cons f r ih =>
    intro a b hb
    match b, hb with
    | y :: b, hb =>
      rw [putF, bA_set, show (a ++ y :: b).set a.length f = (a ++ [f]) ++ b by simp]
      have := ih (a ++ [f]) b (by simp at hb; omega)
      rw [List.length_append, List.length_singleton] at this
      rw [this]
      simp
/-- What a parser of addresses answers: an error, or the address of the bytes read. -/
def AddrPost (w : World) (z : ZP) (r : Option (List UInt8)) (e : Ending) (w' : World) : Prop :=
  Below w.heap.size w w' ∧ match r with
    | none => ∃ x, e = .returned (.tuple #[.agg #[.int .u64 0, .int .u64 0, .pointer none], .iface 89 x])
    | some bs => (bs.length = 4 ∨ bs.length = 16) ∧ e = .returned (.tuple #[.agg #[.int .u64 (adOf bs).h, .int .u64 (adOf bs).l, .pointer (z.ptr (adOf bs).k)], .nilIface])
set_option maxRecDepth 100000 in
set_option maxHeartbeats 8000000 in
theorem parse4_c (s : ByteArray) (z : ZP) (w : World) (hz : Zs w z) (hs : s.size ≤ 4611686018427387904) :
    Calls Tryd.prog 44 #[.string s] w (AddrPost w z (Tx.p4 s.data.toList 0 0 [])) := by
  have hbi : bytesIn s 0 s.size = s.data.toList := by unfold bytesIn; rw [List.drop_zero, Nat.sub_zero, List.take_of_length_le (by rw [str_len]; omega)]
  obtain ⟨R, hR⟩ : ∃ R, R = Tx.p4 s.data.toList 0 0 [] := ⟨_, rfl⟩
  rw [← hR]
  have HR := Lib.hid hR
  have HZ := Lib.hid hz
  clear hR hz
  go_enter Tryd.func44, Tryd.ntmps44
  go_wp2_with fail
  have hb0 : Blk ((w.alloc (.cells #[.int .u64 0, .int .u64 0, .pointer none] 54)).alloc (.cells #[.int .u8 0, .int .u8 0, .int .u8 0, .int .u8 0] 92)) w.heap.size 54 #[.int .u64 0, .int .u64 0, .pointer none] := Blk.below (heap_alloc_new w _) ((Below.refl _ _).alloc (Nat.le_refl _) _)
  have hblk : Blk ((w.alloc (.cells #[.int .u64 0, .int .u64 0, .pointer none] 54)).alloc (.cells #[.int .u8 0, .int .u8 0, .int .u8 0, .int .u8 0] 92)) (w.heap.size + 1) 92 (bA [0, 0, 0, 0]) := by
    have := heap_alloc_new (w.alloc (.cells #[.int .u64 0, .int .u64 0, .pointer none] 54)) (.cells #[.int .u8 0, .int .u8 0, .int .u8 0, .int .u8 0] 92)
    rw [show (w.alloc (.cells #[.int .u64 0, .int .u64 0, .pointer none] 54)).heap.size = w.heap.size + 1 by simp] at this
    exact this
  have hbl : Below w.heap.size w ((w.alloc (.cells #[.int .u64 0, .int .u64 0, .pointer none] 54)).alloc (.cells #[.int .u8 0, .int .u8 0, .int .u8 0, .int .u8 0] 92)) := (boxes2 w _ _).below
  generalize (w.alloc (.cells #[.int .u64 0, .int .u64 0, .pointer none] 54)).alloc (.cells #[.int .u8 0, .int .u8 0, .int .u8 0, .int .u8 0] 92) = w1 at *
  have hc := p4_c s 0 s.size (w.heap.size + 1) 0 4 92 _ w1 (Nat.zero_le _) (Nat.le_refl _) hs hblk (by simp [bA, Lib.byteCells])
  rw [hbi, ← HR.out] at hc
  have hlt := hb0.lt
  have hlt2 := hblk.lt
  refine hc.mono ?_
  clear hc
  rintro e w2 ⟨hg, hp⟩
  have hb2 := hb0.grown hg (by simp)
  have hbw : Below w.heap.size w w2 := hbl.grown hg (by omega) (by intro k hk; injection hk with hk; omega)
  cases R with
  | none =>
    obtain ⟨x, cs', rfl, hbk, -⟩ := hp
    have r0 := hb2.cell
    have f0 := hb2.free
    have HBW := Lib.hid hbw
    clear hb0 hblk hbl hg hb2 hbk hbw
    go_wp2
    refine bodyPost_ret (v := .tuple #[.agg #[.int .u64 0, .int .u64 0, .pointer none], .iface 89 x]) (by simp [results, Tryd.results44, go_sem, r0]) rfl ?_
    exact ⟨by have := HBW.out; go_grown, x, rfl⟩
  | some fs =>
    obtain ⟨rfl, hf4, hbk⟩ := hp
    match fs, hf4 with
    | [b0, b1, b2, b3], _ =>
      have hbk2 : Blk w2 (w.heap.size + 1) 92 #[.int .u8 b0.toNat, .int .u8 b1.toNat, .int .u8 b2.toNat, .int .u8 b3.toNat] := hbk
      have r1 := hbk2.cell
      have HB2 := Lib.hid hb2
      have HBW := Lib.hid hbw
      have hz2 := HZ.out.keep hbw
      clear hb0 hblk hbl hg hbk hbw hb2
      go_wp2_with fail
      refine (from4_c b0 b1 b2 b3 z w2 hz2).mono ?_
      rintro e w3 ⟨rfl, hb3⟩
      have hb2' := HB2.out.below hb3
      have r0 := hb2'.cell
      have f0 := hb2'.free
      have hbw := HBW.out.trans (hb3.mono HBW.out.size)
      have HBW3 := Lib.hid hbw
      clear hb3 hb2' hbw r1
      go_wp2
      refine bodyPost_ret (v := .tuple #[.agg #[.int .u64 0, .int .u64 ((281470681743360 + Lib.beNat [b0, b1, b2, b3] : Nat) : Int), .pointer (z.ptr (some false))], .nilIface]) (by simp [results, Tryd.results44, go_sem, r0]) rfl ?_
      exact ⟨by have := HBW3.out; go_grown, .inl rfl, rfl⟩
end Go.Proofs.YtaofindlomkbbaaDoor
