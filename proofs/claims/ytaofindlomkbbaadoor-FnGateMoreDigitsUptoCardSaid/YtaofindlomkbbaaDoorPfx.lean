/-
  Contracts of net/netip's prefixes: Bits, IsValid, isZero, withoutZone, PrefixFrom; impl.prefix.
-/
import Derived.Test.YtaofindlomkbbaaDoorNum
import Derived.Test.YtaofindlomkbbaaDoorRegion2
import Derived.Test.YtaofindlomkbbaaDoorRegion3
import Derived.Test.YtaofindlomkbbaaDoorPlain
import Derived.Test.YtaofindlomkbbaaDoorPlaces
namespace Go.Proofs.YtaofindlomkbbaaDoor
open Go Go.RowKit
theorem ad4 {b : List UInt8} (h : b.length = 4) : adOf b = ⟨0, 281470681743360 + Lib.beNat b, some false⟩ := by unfold adOf; rw [if_pos h]
theorem ad16 {b : List UInt8} (h : b.length = 16) : adOf b = ⟨Lib.beNat b / 2 ^ 64, Lib.beNat b % 2 ^ 64, some true⟩ := by
  rw [adOf_len (Or.inr h)]; unfold adV; rw [if_neg (by omega)]
theorem infoBool : (Tryd.prog.info? 4).map (fun i => (i.zero, i.size, i.bytes)) = some (some (.bool false), 1, 1) := by kernel_rfl
theorem bl_len {bs : List UInt8} (h : isLen bs.length) : (adOf bs).k ≠ none ∧ bl (adOf bs).k = ((8 * bs.length : Nat) : Int) := by
  rcases h with h | h
  · rw [ad4 h, h]; exact ⟨by simp, rfl⟩
  · rw [ad16 h, h]; exact ⟨by simp, rfl⟩
/-- A row that a literal has laid. -/
theorem own_lit (w : World) (cs : Array Value) (t : TypeId) (size n B : Nat) (hB : B ≤ w.heap.size) (hs : cs.size = n * size) (hn : n ≤ 1000) : (w.alloc (.cells cs t)).ownsRow B t size (.slice (some ⟨w.heap.size, 0, none⟩) n n) n cs.toList :=
  ⟨by simp [hs], .inr ⟨w.heap.size, n, cs, rfl, hB, heap_alloc_new w _, Nat.le_refl _, by unfold maxLen; omega, hs, by rw [← hs, ← Array.length_toList, List.take_length]⟩⟩
/-- A row that a literal has laid, as a lasting fact. -/
def LitRow (B : Nat) (t : TypeId) (size n : Nat) (cs : List Value) (v : Value) (w : World) : Prop := ∃ g, v = .slice (some ⟨g, 0, none⟩) n n ∧ w.ownsRow B t size (.slice (some ⟨g, 0, none⟩) n n) n cs
theorem LitRow.keep {B : Nat} {t : TypeId} {size n : Nat} {cs : List Value} {v : Value} {w w' : World} (h : LitRow B t size n cs v w) (hb : Below w.heap.size w w') : LitRow B t size n cs v w' := by
  obtain ⟨g, h1, h2⟩ := h
  exact ⟨g, h1, own_below h2 hb⟩
theorem LitRow.own {B : Nat} {t : TypeId} {size n g : Nat} {cs : List Value} {w : World} (h : LitRow B t size n cs (.slice (some ⟨g, 0, none⟩) n n) w) : w.ownsRow B t size (.slice (some ⟨g, 0, none⟩) n n) n cs := by
  obtain ⟨g', h1, h2⟩ := h
  injection h1 with h1
  injection h1 with h1
  injection h1 with h1
  subst h1
  exact h2
end Go.Proofs.YtaofindlomkbbaaDoor
