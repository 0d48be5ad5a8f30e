/-
  Contract: ParsePrefixEach.
-/
import Derived.Test.YtnoolheinkeocaaGreatDoorFromPf
import Derived.Test.YtnoolheinkeocaaGreatDoorPlaces
import Derived.Test.YtnoolheinkeocaaGreatDoorMade
namespace Go.Proofs.YtnoolheinkeocaaGreatDoor
open Go Go.RowKit
theorem pfBits0_c (h l : Int) (P : Option Addr) (w : World) :
    Calls Tryz.prog 26 #[.agg #[.int .u64 h, .int .u64 l, .pointer P, .int .u8 0]] w fun e w' => e = .returned (.int .i64 (-1)) ∧ Below w.heap.size w w' := by
  go_enter Tryz.func26, Tryz.ntmps26
  go_wp2
  go_returns
  exact ⟨rfl, by go_grown⟩
/-- What fromPrefix hands back, of a prefix that is there or of none (k = -1). -/
def FreshPI (B n : Nat) (bs : List UInt8) (k : Int) (v : Value) (w : World) : Prop := ∃ A c t, v = .agg #[.slice A n c, .string ⟨#[]⟩, .int .i64 k] ∧ byteTag t ∧ w.ownsRow B t 1 (.slice A n c) n (Lib.byteCells bs)
theorem FreshPI.keep {B n : Nat} {bs : List UInt8} {k : Int} {v : Value} {w w' : World} (h : FreshPI B n bs k v w) (hb : Below w.heap.size w w') : FreshPI B n bs k v w' := by
  obtain ⟨A, c, t, h1, h2, h3⟩ := h
  exact ⟨A, c, t, h1, h2, own_below h3 hb⟩
theorem FreshPI.own {B n : Nat} {bs : List UInt8} {k : Int} {A : Option Addr} {c : Nat} {w : World} (h : FreshPI B n bs k (.agg #[.slice A n c, .string ⟨#[]⟩, .int .i64 k]) w) : ∃ t, byteTag t ∧ w.ownsRow B t 1 (.slice A n c) n (Lib.byteCells bs) := by
  obtain ⟨A', c', t, h1, h2, h3⟩ := h
  injection h1 with h1
  simp only [Array.mk.injEq, List.cons.injEq, Value.slice.injEq, and_true] at h1
  obtain ⟨rfl, -, rfl⟩ := h1
  exact ⟨t, h2, h3⟩
set_option maxRecDepth 100000 in
set_option maxHeartbeats 8000000 in
theorem fromPrefix0_c (z : ZP) (w : World) (hz : Zs w z) :
    Calls Tryz.prog 16 #[.agg #[.int .u64 0, .int .u64 0, .pointer none, .int .u8 0]] w fun e w' => ∃ v, e = .returned v ∧ FreshPI w.heap.size 0 [] (-1) v w' ∧ Below w.heap.size w w' := by
  have hfa : ∀ w, Zs w z → Calls Tryz.prog 33 #[.agg #[.int .u64 0, .int .u64 0, .pointer none]] w (FromPost w []) := fun w hz => fromAddr_c ⟨0, 0, none⟩ z w hz (by decide) (by decide)
  go_enter Tryz.func16, Tryz.ntmps16
  go_wp2_with fail
  refine region_pick (Boxes w [#[.int .u64 0, .int .u64 0, .pointer none, .int .u8 0], #[.slice none 0 0, .string ⟨#[]⟩, .int .i64 0]]) [(0, false, none), (1, false, none), (3, false, none), (2, true, none), (4, false, none), (5, false, none)] 6 (by kernel_rfl) (by kernel_rfl) (fun w1 w2 h hb => h.keep hb) ((boxes2 _ _ _).drew) ?_
  simp only [pickOps, List.getElem?_cons_zero, List.getElem?_cons_succ]
  repeat (first | (refine t_skip rfl ?_; (simp only [Act.put, List.setIfInBounds_toArray, List.set_cons_zero, List.set_cons_succ])) | (refine t_run ?_ rfl (fun w1 hw1 => ?_) ?_; rotate_left; (have r0 := hw1.b0; go_simp; try (with_reducible rfl)); (simp only [Act.put, List.setIfInBounds_toArray, List.set_cons_zero, List.set_cons_succ])) | (refine t_call ?_ ?_ ?_ rfl (fun w1 hw1 => ?_) (fun w1 hw1 => ?_) ?_; rotate_left 3; (have r0 := hw1.b0; go_simp; refine ⟨?_, ?_⟩ <;> with_reducible rfl); (first | (go_at_call 27; (with_reducible refine (pfAddr_c _ _ _ _ w1).mono ?_); rintro e w2 ⟨rfl, hb⟩; refine ⟨?_, hb⟩; with_reducible rfl) | (go_at_call 27; (refine (pfAddr_c _ _ _ _ w1).mono ?_); rintro e w2 ⟨rfl, hb⟩; refine ⟨?_, hb⟩; with_reducible rfl)); (simp only [Act.put, List.setIfInBounds_toArray, List.set_cons_zero, List.set_cons_succ])))
  refine t_fresh ?_ ?_ (fun v w' => FreshT (w.heap.size + 2) 0 [] v w') (by rfl) (fun w1 hw1 => ?_) (fun v w w' h hb => h.keep hb) (fun w1 hw1 => ?_) ?_
  rotate_left 2
  (go_simp; refine ⟨?_, ?_⟩ <;> with_reducible rfl)
  (go_at_call 33; (with_reducible refine (hfa w1 (hz.keep hw1.below)).mono ?_); rintro e w2 ⟨A8, n8, c8, t8, rfl, ht8, hown8, hb8⟩; exact ⟨_, rfl, ⟨A8, c8, t8, by rw [show 0 = n8 by have := hown8.1; simp [Lib.byteCells] at this; omega], ht8, by rw [show 0 = n8 by have := hown8.1; simp [Lib.byteCells] at this; omega]; exact own_mono hown8 hw1.size⟩, hb8⟩)
  rintro v8 ⟨-, -, A8, c8, t8, rfl, -, -⟩
  (simp only [Act.put, List.setIfInBounds_toArray, List.set_cons_zero, List.set_cons_succ])
  repeat (first | (refine t_skip rfl ?_; (simp only [Act.put, List.setIfInBounds_toArray, List.set_cons_zero, List.set_cons_succ])) | (refine t_run ?_ rfl (fun w1 hw1 => ?_) ?_; rotate_left; (go_simp; try (with_reducible rfl)); (simp only [Act.put, List.setIfInBounds_toArray, List.set_cons_zero, List.set_cons_succ])) | (refine t_call ?_ ?_ ?_ rfl (fun w1 hw1 => ?_) (fun w1 hw1 => ?_) ?_; rotate_left 3; (go_simp; refine ⟨?_, ?_⟩ <;> with_reducible rfl); (first | (go_at_call 26; (with_reducible refine (pfBits0_c _ _ _ w1).mono ?_); rintro e w2 ⟨rfl, hb⟩; refine ⟨?_, hb⟩; with_reducible rfl) | (go_at_call 26; (refine (pfBits0_c _ _ _ w1).mono ?_); rintro e w2 ⟨rfl, hb⟩; refine ⟨?_, hb⟩; with_reducible rfl)); (simp only [Act.put, List.setIfInBounds_toArray, List.set_cons_zero, List.set_cons_succ])))
  intro w7 ⟨hw7, hf7⟩
  simp only [List.drop_succ_cons, List.drop_zero]
  obtain ⟨t7, ht7, hO7⟩ := hf7.own
  have bb := hw7.below
  have r1 := hw7.b1
  have f1 := hw7.f1
  have HO7 := Lib.hid hO7
  clear hf7 hO7 hfa
  go_wp2
  refine bodyPost_ret (v := .agg #[.slice A8 0 c8, .string ⟨#[]⟩, .int .i64 (-1)]) (by simp [results, Tryz.results16, go_sem, r1]) rfl ?_
  refine ⟨_, rfl, ⟨A8, c8, t7, rfl, ht7, own_mono (ownsRow_setCell_below (ownsRow_setCell_below (ownsRow_setCell_below HO7.out (by simp) _) (by simp) _) (by simp) _) (by omega)⟩, ?_⟩
  exact ((bb.setCell (p := ⟨w.heap.size + 1, 0, none⟩) (by simp) _).setCell (p := ⟨w.heap.size + 1, 1, none⟩) (by simp) _).setCell (p := ⟨w.heap.size + 1, 2, none⟩) (by simp) _
end Go.Proofs.YtnoolheinkeocaaGreatDoor
namespace Go.Proofs.YtnoolheinkeocaaGreatDoor
open Go Go.RowKit
/-- What a text reads as: nothing, or a prefix. -/
abbrev Out := Option (List UInt8 × Nat)
def Out.bs : Out → List UInt8
  | none => []
  | some p => p.1
def Out.k : Out → Int
  | none => -1
  | some p => p.2
def Out.ok : Out → Bool
  | none => false
  | some _ => true
/-- What ParsePrefix answers. -/
def PfOut (z : ZP) (o : Out) (e : Ending) : Prop :=
  match o with
  | none => ∃ x, e = .returned (.tuple #[.agg #[.int .u64 0, .int .u64 0, .pointer none, .int .u8 0], .iface 96 x])
  | some p => e = .returned (.tuple #[.agg #[.int .u64 (adOf p.1).h, .int .u64 (adOf p.1).l, .pointer (z.ptr (adOf p.1).k), .int .u8 ((p.2 + 1 : Nat) : Int)], .nilIface])
/-- A text reads as o, in every world behind w0. -/
def Reads (z : ZP) (w0 : World) (t : ByteArray) (o : Out) : Prop :=
  (∀ p, o = some p → Vp p) ∧ ∀ w, Below w0.heap.size w0 w → Calls Tryz.prog 32 #[.string t] w fun e w' => PfOut z o e ∧ Below w.heap.size w w'
theorem PfOut.is {z : ZP} {o : Out} {e : Ending} (h : PfOut z o e) (hv : ∀ p, o = some p → Vp p) : ∃ (a b d : Int) (c : Option Addr) (y : Value), e = .returned (.tuple #[.agg #[.int .u64 a, .int .u64 b, .pointer c, .int .u8 d], y]) ∧
    ((y = .nilIface ∧ o.ok = true) ∨ (∃ x, y = .iface 96 x) ∧ o.ok = false) ∧
    (∀ w, Zs w z → Calls Tryz.prog 16 #[.agg #[.int .u64 a, .int .u64 b, .pointer c, .int .u8 d]] w fun e w' => ∃ v, e = .returned v ∧ FreshPI w.heap.size o.bs.length o.bs o.k v w' ∧ Below w.heap.size w w') := by
  cases o with
  | none =>
    obtain ⟨x, rfl⟩ := h
    exact ⟨_, _, _, _, _, rfl, .inr ⟨⟨x, rfl⟩, rfl⟩, fun w hz => fromPrefix0_c z w hz⟩
  | some p =>
    have hp := hv p rfl
    obtain rfl : e = _ := h
    refine ⟨_, _, _, _, _, rfl, .inl ⟨rfl, rfl⟩, fun w hz => ?_⟩
    have h128 : p.2 ≤ 128 := by
      have := hp.2
      rcases hp.1 with h | h <;> rw [h] at this <;> omega
    rw [show (((p.2 + 1 : Nat) : Int)) = (p.2 : Int) + 1 from rfl]
    exact fromPrefix_c p.1 p.2 z w hz hp.1 h128
/-- A piece of the answer. -/
structure Pe where
  a : Option Addr
  n : Nat
  c : Nat
  bs : List UInt8
  k : Int
  ok : Bool
def peCells (es : List Pe) : List Value := es.flatMap fun e => [.slice e.a e.n e.c, .string ⟨#[]⟩, .int .i64 e.k, .bool e.ok]
theorem peCells_len (es : List Pe) : (peCells es).length = es.length * 4 := by
  unfold peCells
  induction es with
  | nil => rfl
  | cons e r ih => rw [List.flatMap_cons, List.length_append, ih, List.length_cons]; simp; omega
theorem peCells_append (es fs : List Pe) : peCells (es ++ fs) = peCells es ++ peCells fs := by simp [peCells]
def Pe.is (e : Pe) : List UInt8 × Int × Bool := (e.bs, e.k, e.ok)
def Out.is (o : Out) : List UInt8 × Int × Bool := (o.bs, o.k, o.ok)
def ownPe (w : World) (B : Nat) (es : List Pe) : Prop := ∀ e ∈ es, ∃ t, byteTag t ∧ w.ownsRow B t 1 (.slice e.a e.n e.c) e.n (Lib.byteCells e.bs)
theorem ownPe.below {w w' : World} {B : Nat} {es : List Pe} (h : ownPe w B es) (hb : Below w.heap.size w w') : ownPe w' B es := fun e he => by
  obtain ⟨t, h1, h2⟩ := h e he
  exact ⟨t, h1, own_below h2 hb⟩
theorem infoCut : (Tryz.prog.info? 40).map (fun i => (i.zero, i.size, i.bytes)) = some (some (.agg #[.slice none 0 0, .string ⟨#[]⟩, .int .i64 0, .bool false]), 4, 56) := by kernel_rfl
theorem tag_cut : ∀ t, byteTag t → t ≠ 40 := fun _ ht => ht.ne (by decide) (by decide) (by decide)
theorem ownPe.grown {w w' : World} {B b2 : Nat} {e2 : TypeId} {s2 : Nat} {v2 : Value} {n2 : Nat} {x2 : List Value} {es : List Pe} (h : ownPe w B es) (h2 : w.ownsRow b2 e2 s2 v2 n2 x2) (hne : ∀ t, byteTag t → t ≠ e2) (hg : w.grownBy w' v2.ownBlock) : ownPe w' B es := fun e he => by
  obtain ⟨t, ht, ho⟩ := h e he
  exact ⟨t, ht, ho.kept hg (own_ne ho h2 (hne t ht))⟩
def EachPost (w : World) (os : List Out) (e : Ending) (w' : World) : Prop :=
  ∃ A c es, e = .returned (.slice A es.length c) ∧ w'.ownsRow w.heap.size 40 4 (.slice A es.length c) es.length (peCells es) ∧ es.map Pe.is = os.map Out.is ∧ ownPe w' w.heap.size es ∧ Below w.heap.size w w'
/-- Texts that can be read. -/
def RT (w : World) (A : Option Addr) (n : Nat) (ts : List ByteArray) : Prop := ts.length = n ∧ RC w A (ts.map Value.string)
theorem RT.keep {w w' : World} {A : Option Addr} {n : Nat} {ts : List ByteArray} (h : RT w A n ts) (hb : Below w.heap.size w w') : RT w' A n ts := ⟨h.1, h.2.keep hb⟩
theorem RT.at {w : World} {A : Option Addr} {n : Nat} {ts : List ByteArray} (h : RT w A n ts) {i : Nat} (hi : i < n) : ∃ g o t, A = some ⟨g, o, none⟩ ∧ g < w.heap.size ∧ ts[i]? = some t ∧ w.cell? ⟨g, o + i, none⟩ = some (.string t) := by
  have hl : i < ts.length := by rw [h.1]; exact hi
  obtain ⟨g, o, hA, hg, hc⟩ := h.2 (by rw [List.length_map]; omega)
  exact ⟨g, o, ts[i], hA, hg, List.getElem?_eq_getElem hl, hc i _ (by simp [hl])⟩
end Go.Proofs.YtnoolheinkeocaaGreatDoor
