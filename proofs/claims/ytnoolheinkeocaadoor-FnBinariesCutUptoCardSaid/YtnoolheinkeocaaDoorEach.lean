/-
  Contract: ParsePrefixEach.
-/
import Derived.Test.YtnoolheinkeocaaDoorFromPf
import Derived.Test.YtnoolheinkeocaaDoorPlaces
import Derived.Test.YtnoolheinkeocaaDoorMade
namespace Go.Proofs.YtnoolheinkeocaaDoor
open Go Go.RowKit
theorem pfBits0_c (h l : Int) (P : Option Addr) (w : World) :
    Calls Tryd.prog 33 #[.agg #[.int .u64 h, .int .u64 l, .pointer P, .int .u8 0]] w fun e w' => e = .returned (.int .i64 (-1)) ∧ Below w.heap.size w w' := by
  go_enter Tryd.func33, Tryd.ntmps33
  go_wp2
  go_returns
  exact ⟨rfl, by go_grown⟩
/-- What fromPrefix hands back, of a prefix that is there or of none (k = -1). -/
def FreshPI (B n : Nat) (bs : List UInt8) (k : Int) (v : Value) (w : World) : Prop := ∃ A c t, v = .agg #[.slice A n c, .string ⟨#[]⟩, .int .i64 k] ∧ byteTag t ∧ w.ownsRow B t 1 (.slice A n c) n (Lib.byteCells bs)
theorem FreshPI.keep {B n : Nat} {bs : List UInt8} {k : Int} {v : Value} {w w' : World} (h : FreshPI B n bs k v w) (hb : Below w.heap.size w w') : FreshPI B n bs k v w' := by
  obtain ⟨A, c, t, h1, h2, h3⟩ := h
  exact ⟨A, c, t, h1, h2, own_below h3 hb⟩
theorem FreshPI.own {B n : Nat} {bs : List UInt8} {k : Int} {A : Option Addr} {c : Nat} {w : World} (h : FreshPI B n bs k (.agg #[.slice A n c, .string ⟨#[]⟩, .int .i64 k]) w) : ∃ t, byteTag t ∧ w.ownsRow B t 1 (.slice A n c) n (Lib.byteCells bs) := by
  obtain ⟨A', c', t, h1, h2, h3⟩ := h
  injection h1 with h1
  simp only [Array.mk.injEq, List.cons.injEq, Value.slice.injEq, and_true] at h1
  obtain ⟨rfl, -, rfl⟩ := h1
  exact ⟨t, h2, h3⟩
set_option maxRecDepth 100000 in
set_option maxHeartbeats 8000000 in
theorem fromPrefix0_c (z : ZP) (w : World) (hz : Zs w z) :
    Calls Tryd.prog 19 #[.agg #[.int .u64 0, .int .u64 0, .pointer none, .int .u8 0]] w fun e w' => ∃ v, e = .returned v ∧ FreshPI w.heap.size 0 [] (-1) v w' ∧ Below w.heap.size w w' := by
  have hfa : ∀ w, Zs w z → Calls Tryd.prog 39 #[.agg #[.int .u64 0, .int .u64 0, .pointer none]] w (FromPost w []) := fun w hz => fromAddr_c ⟨0, 0, none⟩ z w hz (by decide) (by decide)
  go_enter Tryd.func19, Tryd.ntmps19
  go_wp2_with fail
  refine region_pick (Boxes w [#[.int .u64 0, .int .u64 0, .pointer none, .int .u8 0], #[.slice none 0 0, .string ⟨#[]⟩, .int .i64 0]]) [(0, false, none), (1, false, none), (3, false, none), (2, true, none), (4, false, none), (5, false, none)] 6 (by kernel_rfl) (by kernel_rfl) (fun w1 w2 h hb => h.keep hb) ((boxes2 _ _ _).drew) ?_
  simp only [pickOps, List.getElem?_cons_zero, List.getElem?_cons_succ]
  repeat (first | (refine t_skip rfl ?_; (simp only [Act.put, List.setIfInBounds_toArray, List.set_cons_zero, List.set_cons_succ])) | (refine t_run ?_ rfl (fun w1 hw1 => ?_) ?_; rotate_left; (have r0 := hw1.b0; go_simp; try (with_reducible rfl)); (simp only [Act.put, List.setIfInBounds_toArray, List.set_cons_zero, List.set_cons_succ])) | (refine t_call ?_ ?_ ?_ rfl (fun w1 hw1 => ?_) (fun w1 hw1 => ?_) ?_; rotate_left 3; (have r0 := hw1.b0; go_simp; refine ⟨?_, ?_⟩ <;> with_reducible rfl); (first | (go_at_call 40; (with_reducible refine (pfAddr_c _ _ _ _ w1).mono ?_); rintro e w2 ⟨rfl, hb⟩; refine ⟨?_, hb⟩; with_reducible rfl) | (go_at_call 40; (refine (pfAddr_c _ _ _ _ w1).mono ?_); rintro e w2 ⟨rfl, hb⟩; refine ⟨?_, hb⟩; with_reducible rfl)); (simp only [Act.put, List.setIfInBounds_toArray, List.set_cons_zero, List.set_cons_succ])))
  refine t_fresh ?_ ?_ (fun v w' => FreshT (w.heap.size + 2) 0 [] v w') (by rfl) (fun w1 hw1 => ?_) (fun v w w' h hb => h.keep hb) (fun w1 hw1 => ?_) ?_
  rotate_left 2
  (go_simp; refine ⟨?_, ?_⟩ <;> with_reducible rfl)
  (go_at_call 39; (with_reducible refine (hfa w1 (hz.keep hw1.below)).mono ?_); rintro e w2 ⟨A8, n8, c8, t8, rfl, ht8, hown8, hb8⟩; exact ⟨_, rfl, ⟨A8, c8, t8, by rw [show 0 = n8 by have := hown8.1; simp [Lib.byteCells] at this; omega], ht8, by rw [show 0 = n8 by have := hown8.1; simp [Lib.byteCells] at this; omega]; exact own_mono hown8 hw1.size⟩, hb8⟩)
  rintro v8 ⟨-, -, A8, c8, t8, rfl, -, -⟩
  (simp only [Act.put, List.setIfInBounds_toArray, List.set_cons_zero, List.set_cons_succ])
  repeat (first | (refine t_skip rfl ?_; (simp only [Act.put, List.setIfInBounds_toArray, List.set_cons_zero, List.set_cons_succ])) | (refine t_run ?_ rfl (fun w1 hw1 => ?_) ?_; rotate_left; (go_simp; try (with_reducible rfl)); (simp only [Act.put, List.setIfInBounds_toArray, List.set_cons_zero, List.set_cons_succ])) | (refine t_call ?_ ?_ ?_ rfl (fun w1 hw1 => ?_) (fun w1 hw1 => ?_) ?_; rotate_left 3; (go_simp; refine ⟨?_, ?_⟩ <;> with_reducible rfl); (first | (go_at_call 33; (with_reducible refine (pfBits0_c _ _ _ w1).mono ?_); rintro e w2 ⟨rfl, hb⟩; refine ⟨?_, hb⟩; with_reducible rfl) | (go_at_call 33; (refine (pfBits0_c _ _ _ w1).mono ?_); rintro e w2 ⟨rfl, hb⟩; refine ⟨?_, hb⟩; with_reducible rfl)); (simp only [Act.put, List.setIfInBounds_toArray, List.set_cons_zero, List.set_cons_succ])))
  intro w7 ⟨hw7, hf7⟩
  simp only [List.drop_succ_cons, List.drop_zero]
  obtain ⟨t7, ht7, hO7⟩ := hf7.own
  have bb := hw7.below
  have r1 := hw7.b1
  have f1 := hw7.f1
  have HO7 := Lib.hid hO7
  clear hf7 hO7 hfa
  go_wp2
  refine bodyPost_ret (v := .agg #[.slice A8 0 c8, .string ⟨#[]⟩, .int .i64 (-1)]) (by simp [results, Tryd.results19, go_sem, r1]) rfl ?_
  refine ⟨_, rfl, ⟨A8, c8, t7, rfl, ht7, own_mono (ownsRow_setCell_below (ownsRow_setCell_below (ownsRow_setCell_below HO7.out (by simp) _) (by simp) _) (by simp) _) (by omega)⟩, ?_⟩
  exact ((bb.setCell (p := ⟨w.heap.size + 1, 0, none⟩) (by simp) _).setCell (p := ⟨w.heap.size + 1, 1, none⟩) (by simp) _).setCell (p := ⟨w.heap.size + 1, 2, none⟩) (by simp) _
end Go.Proofs.YtnoolheinkeocaaDoor
namespace Go.Proofs.YtnoolheinkeocaaDoor
open Go Go.RowKit
/-- What a text reads as: nothing, or a prefix. -/
abbrev Out := Option (List UInt8 × Nat)
def Out.bs : Out → List UInt8
  | none => []
  | some p => p.1
def Out.k : Out → Int
  | none => -1
  | some p => p.2
def Out.ok : Out → Bool
  | none => false
  | some _ => true
/-- What ParsePrefix answers. -/
def PfOut (z : ZP) (o : Out) (e : Ending) : Prop :=
  match o with
  | none => ∃ x, e = .returned (.tuple #[.agg #[.int .u64 0, .int .u64 0, .pointer none, .int .u8 0], .iface 79 x])
  | some p => e = .returned (.tuple #[.agg #[.int .u64 (adOf p.1).h, .int .u64 (adOf p.1).l, .pointer (z.ptr (adOf p.1).k), .int .u8 ((p.2 + 1 : Nat) : Int)], .nilIface])
/-- A text reads as o, in every world behind w0. -/
def Reads (z : ZP) (w0 : World) (t : ByteArray) (o : Out) : Prop :=
  (∀ p, o = some p → Vp p) ∧ ∀ w, Below w0.heap.size w0 w → Calls Tryd.prog 18 #[.string t] w fun e w' => PfOut z o e ∧ Below w.heap.size w w'
theorem PfOut.is {z : ZP} {o : Out} {e : Ending} (h : PfOut z o e) (hv : ∀ p, o = some p → Vp p) : ∃ (a b d : Int) (c : Option Addr) (y : Value), e = .returned (.tuple #[.agg #[.int .u64 a, .int .u64 b, .pointer c, .int .u8 d], y]) ∧
    ((y = .nilIface ∧ o.ok = true) ∨ (∃ x, y = .iface 79 x) ∧ o.ok = false) ∧
    (∀ w, Zs w z → Calls Tryd.prog 19 #[.agg #[.int .u64 a, .int .u64 b, .pointer c, .int .u8 d]] w fun e w' => ∃ v, e = .returned v ∧ FreshPI w.heap.size o.bs.length o.bs o.k v w' ∧ Below w.heap.size w w') := by
  cases o with
  | none =>
    obtain ⟨x, rfl⟩ := h
    exact ⟨_, _, _, _, _, rfl, .inr ⟨⟨x, rfl⟩, rfl⟩, fun w hz => fromPrefix0_c z w hz⟩
  | some p =>
    have hp := hv p rfl
    obtain rfl : e = _ := h
    refine ⟨_, _, _, _, _, rfl, .inl ⟨rfl, rfl⟩, fun w hz => ?_⟩
    have h128 : p.2 ≤ 128 := by
      have := hp.2
      rcases hp.1 with h | h <;> rw [h] at this <;> omega
    rw [show (((p.2 + 1 : Nat) : Int)) = (p.2 : Int) + 1 from rfl]
    exact fromPrefix_c p.1 p.2 z w hz hp.1 h128
/-- A piece of the answer. -/
structure Pe where
  a : Option Addr
  n : Nat
  c : Nat
  bs : List UInt8
  k : Int
  ok : Bool
def peCells (es : List Pe) : List Value := es.flatMap fun e => [.slice e.a e.n e.c, .string ⟨#[]⟩, .int .i64 e.k, .bool e.ok]
theorem peCells_len (es : List Pe) : (peCells es).length = es.length * 4 := by
  unfold peCells
  induction es with
  | nil => rfl
  | cons e r ih => rw [List.flatMap_cons, List.length_append, ih, List.length_cons]; simp; omega
theorem peCells_append (es fs : List Pe) : peCells (es ++ fs) = peCells es ++ peCells fs := by simp [peCells]
def Pe.is (e : Pe) : List UInt8 × Int × Bool := (e.bs, e.k, e.ok)
def Out.is (o : Out) : List UInt8 × Int × Bool := (o.bs, o.k, o.ok)
def ownPe (w : World) (B : Nat) (es : List Pe) : Prop := ∀ e ∈ es, ∃ t, byteTag t ∧ w.ownsRow B t 1 (.slice e.a e.n e.c) e.n (Lib.byteCells e.bs)
theorem ownPe.below {w w' : World} {B : Nat} {es : List Pe} (h : ownPe w B es) (hb : Below w.heap.size w w') : ownPe w' B es := fun e he => by
  obtain ⟨t, h1, h2⟩ := h e he
  exact ⟨t, h1, own_below h2 hb⟩
theorem infoCut : (Tryd.prog.info? 37).map (fun i => (i.zero, i.size, i.bytes)) = some (some (.agg #[.slice none 0 0, .string ⟨#[]⟩, .int .i64 0, .bool false]), 4, 56) := by kernel_rfl
theorem tag_cut : ∀ t, byteTag t → t ≠ 37 := fun _ ht => ht.ne (by decide) (by decide) (by decide)
theorem ownPe.grown {w w' : World} {B b2 : Nat} {e2 : TypeId} {s2 : Nat} {v2 : Value} {n2 : Nat} {x2 : List Value} {es : List Pe} (h : ownPe w B es) (h2 : w.ownsRow b2 e2 s2 v2 n2 x2) (hne : ∀ t, byteTag t → t ≠ e2) (hg : w.grownBy w' v2.ownBlock) : ownPe w' B es := fun e he => by
  obtain ⟨t, ht, ho⟩ := h e he
  exact ⟨t, ht, ho.kept hg (own_ne ho h2 (hne t ht))⟩
def EachPost (w : World) (os : List Out) (e : Ending) (w' : World) : Prop :=
  ∃ A c es, e = .returned (.slice A es.length c) ∧ w'.ownsRow w.heap.size 37 4 (.slice A es.length c) es.length (peCells es) ∧ es.map Pe.is = os.map Out.is ∧ ownPe w' w.heap.size es ∧ Below w.heap.size w w'
/-- Texts that can be read. -/
def RT (w : World) (A : Option Addr) (n : Nat) (ts : List ByteArray) : Prop := ts.length = n ∧ RC w A (ts.map Value.string)
theorem RT.keep {w w' : World} {A : Option Addr} {n : Nat} {ts : List ByteArray} (h : RT w A n ts) (hb : Below w.heap.size w w') : RT w' A n ts := ⟨h.1, h.2.keep hb⟩
theorem RT.at {w : World} {A : Option Addr} {n : Nat} {ts : List ByteArray} (h : RT w A n ts) {i : Nat} (hi : i < n) : ∃ g o t, A = some ⟨g, o, none⟩ ∧ g < w.heap.size ∧ ts[i]? = some t ∧ w.cell? ⟨g, o + i, none⟩ = some (.string t) := by
  have hl : i < ts.length := by rw [h.1]; exact hi
  obtain ⟨g, o, hA, hg, hc⟩ := h.2 (by rw [List.length_map]; omega)
  exact ⟨g, o, ts[i], hA, hg, List.getElem?_eq_getElem hl, hc i _ (by simp [hl])⟩
set_option maxRecDepth 100000 in
set_option maxHeartbeats 8000000 in
theorem parseEach_c (A : Option Addr) (n c : Nat) (ts : List ByteArray) (os : List Out) (z : ZP) (w : World) (hz : Zs w z) (ht : RT w A n ts) (ho : os.length = n) (hr : ∀ (i : Nat) t o, ts[i]? = some t → os[i]? = some o → Reads z w t o) (hn : n ≤ 1099511627776) :
    Calls Tryd.prog 8 #[.slice A n c] w (EachPost w os) := by
  obtain ⟨i0, hi, hz0, hz1, hz2⟩ := info_parts infoCut
  go_enter Tryd.func8, Tryd.ntmps8
  go_wp2_with fail
  go_loopw [3, 10] (fun v i wr => ∃ (j : Nat) (es' : List Pe), j ≤ n ∧ i = .int .i64 j ∧ wr.ownsRow w.heap.size 37 4 v es'.length (peCells es') ∧ es'.length = j ∧ es'.map Pe.is = (os.take j).map Out.is ∧ ownPe wr w.heap.size es' ∧ Below w.heap.size w wr) (fun _ i _ => n - (intOf i).toNat)
  case atStart => exact ⟨0, [], Nat.zero_le _, rfl, World.ownsRow_nil _ _ _ _, rfl, rfl, fun e he => (by simp at he), Below.refl _ _⟩
  case round =>
    obtain ⟨j, es', hj, rfl, hown, hlj, hmap, hin, hbb⟩ := hrel
    have HO := Lib.hid hown
    have HM := Lib.hid hmap
    have HI := Lib.hid hin
    clear hown hmap hin
    by_cases hlt : j < n
    · obtain ⟨g1, o1, t, hA, hg1, htj, hct⟩ := (ht.keep hbb).at hlt
      subst hA
      obtain ⟨o, hoj⟩ : ∃ o, os[j]? = some o := ⟨_, List.getElem?_eq_getElem (by omega)⟩
      have hrd := hr j t o htj hoj
      have htk : (os.take (j + 1)).map Out.is = (os.take j).map Out.is ++ [Out.is o] := by
        rw [List.take_add_one, hoj, Option.toList_some, List.map_append]; rfl
      have HT := Lib.hid htk
      have HRD := Lib.hid hrd
      clear htk htj hoj hrd
      go_wp2_with fail
      refine (HRD.out.2 wr hbb).mono ?_
      rintro e1 w2 ⟨hpf, hb2⟩
      obtain ⟨x0, x1, x3, x2, y, rfl, hy, hfp⟩ := hpf.is HRD.out.1
      have hb3 := hbb.trans (hb2.mono hbb.size)
      have HFP := Lib.hid hfp
      have hO3 := Lib.hid (own_below HO.out hb2)
      have hI3 := Lib.hid (HI.out.below hb2)
      have hx4 : Below w2.heap.size w2 (w2.alloc (.cells #[.int .u64 x0, .int .u64 x1, .pointer x2, .int .u8 x3] 58)) := (Below.refl _ _).alloc (Nat.le_refl _) _
      have hbk4 : Blk (w2.alloc (.cells #[.int .u64 x0, .int .u64 x1, .pointer x2, .int .u8 x3] 58)) w2.heap.size 58 #[.int .u64 x0, .int .u64 x1, .pointer x2, .int .u8 x3] := heap_alloc_new _ _
      have hb4 := hb3.trans (hx4.mono hb3.size)
      have hO4 := Lib.hid (own_below hO3.out hx4)
      have hI4 := Lib.hid (hI3.out.below hx4)
      obtain ⟨g4, hg4⟩ : ∃ g4, g4 = w2.heap.size := ⟨_, rfl⟩
      have HG4 := Lib.hid hg4
      clear hb2 hfp hpf hct hx4 hg4 hO3 hI3 HO HI
      go_wp2_with fail
      rw [← HG4.out] at hbk4 ⊢
      generalize w2.alloc (.cells #[.int .u64 x0, .int .u64 x1, .pointer x2, .int .u8 x3] 58) = w4 at *
      clear HG4 hb3
      have l4 := hbk4.lt
      have r4 : ∀ w', Below w4.heap.size w4 w' → ∀ i, w'.cell? ⟨g4, i, none⟩ = #[Value.int .u64 x0, .int .u64 x1, .pointer x2, .int .u8 x3][i]? := fun w' h i => (h.cell (p := ⟨g4, i, none⟩) l4).trans (hbk4.cell i)
      have hdr : Below w4.heap.size w4 w4.drew := ⟨rfl, rfl, rfl, Nat.le_refl _, fun _ _ => rfl⟩
      generalize hok : o.ok = ok at hy
      have HOK := Lib.hid hok
      clear hok
      rcases hy with ⟨rfl, rfl⟩ | ⟨⟨x, rfl⟩, rfl⟩
      · skip
        refine region_pick (Below w4.heap.size w4) [(0, false, none), (1, false, none), (3, false, none), (4, false, none), (2, true, none), (5, false, none), (6, true, none)] 7 (by kernel_rfl) (by kernel_rfl) (fun w w' h hb => h.trans (hb.mono h.size)) (hdr) ?_
        simp only [pickOps, List.getElem?_cons_zero, List.getElem?_cons_succ]
        repeat (first | (refine t_skip rfl ?_; (simp only [Act.put, List.setIfInBounds_toArray, List.set_cons_zero, List.set_cons_succ])) | (refine t_run ?_ rfl (fun w1 hw1 => ?_) ?_; rotate_left; (have r0 := r4 w1 hw1; go_simp; try (with_reducible rfl)); (simp only [Act.put, List.setIfInBounds_toArray, List.set_cons_zero, List.set_cons_succ])))
        refine t_fresh ?_ ?_ (fun v w' => FreshPI w.heap.size o.bs.length o.bs o.k v w') (by rfl) (fun w1 hw1 => ?_) (fun v w w' h hb => h.keep hb) (fun w1 hw1 => ?_) ?_
        rotate_left 2
        (go_simp; refine ⟨?_, ?_⟩ <;> with_reducible rfl)
        (go_at_call 19; (with_reducible refine (HFP.out w1 (hz.keep (hb4.trans (hw1.mono hb4.size)))).mono ?_); rintro e w2 ⟨v8, rfl, ⟨A8, c8, t8, rfl, ht8, hown8⟩, hb8⟩; exact ⟨_, rfl, ⟨A8, c8, t8, rfl, ht8, own_mono hown8 (hb4.trans (hw1.mono hb4.size)).size⟩, hb8⟩)
        rintro v8 ⟨-, -, A8, c8, t8, rfl, -, -⟩
        (simp only [Act.put, List.setIfInBounds_toArray, List.set_cons_zero, List.set_cons_succ])
        repeat (first | (refine t_skip rfl ?_; (simp only [Act.put, List.setIfInBounds_toArray, List.set_cons_zero, List.set_cons_succ])) | (refine t_run ?_ rfl (fun w1 hw1 => ?_) ?_; rotate_left; (go_simp; try (with_reducible rfl)); (simp only [Act.put, List.setIfInBounds_toArray, List.set_cons_zero, List.set_cons_succ])))
        refine t_new (fun v w' => LitRow w.heap.size 37 4 1 [.slice A8 o.bs.length c8, .string ⟨#[]⟩, .int .i64 o.k, .bool true] v w') (by rfl) (fun v w w' h hb => h.keep hb) (fun w1 hw1 => ?_) ?_
        refine ⟨?_, ?_, ?_, ?_, ?_⟩
        rotate_left 2
        (go_simp; first | (refine ⟨?_, ?_⟩ <;> with_reducible rfl) | with_reducible rfl)
        exact ⟨_, rfl, own_lit w1 #[.slice A8 o.bs.length c8, .string ⟨#[]⟩, .int .i64 o.k, .bool true] _ 4 1 _ (hb4.trans (hw1.1.mono hb4.size)).size rfl (by omega)⟩
        exact (Below.refl _ _).alloc (Nat.le_refl _) _
        rintro v9 ⟨-, -, g9, rfl, -⟩
        (simp only [Act.put, List.setIfInBounds_toArray, List.set_cons_zero, List.set_cons_succ])
        intro w7 ⟨⟨hw7, hf7⟩, hl7⟩
        simp only [List.drop_succ_cons, List.drop_zero]
        obtain ⟨g', hg1', hg2', hg3'⟩ := own_some hl7.own (by omega)
        injection hg1' with hg1'
        injection hg1' with hg1'
        subst hg1'
        have hb47 := hb4.trans (hw7.mono hb4.size)
        have hO7 := own_below hO4.out hw7
        have hI7 := hI4.out.below hw7
        obtain ⟨t7, ht7, hP7⟩ := hf7.own
        have hs7 : w.heap.size ≤ w7.heap.size := hb47.size
        have HO7 := Lib.hid hO7
        have HC := Lib.hid hg3'
        have HR7 := Lib.hid (own_row_ge hO7)
        have hE7 : ownPe w7 w.heap.size (es' ++ [⟨A8, o.bs.length, c8, o.bs, o.k, true⟩]) := fun y hy => by
          rcases List.mem_append.1 hy with hy | hy
          · exact hI7 y hy
          · simp at hy; subst hy; exact ⟨t7, ht7, hP7⟩
        have HE7 := Lib.hid hE7
        have HB7 := Lib.hid hb47
        clear hO7 hg3' hf7 hl7 hI7 hP7 hE7 HFP r4 hbk4 hb47 hb4 hO4 hI4
        go_wp2_with (at_builtin; refine wpList_append_own _ rfl _ _ 28 rfl w.heap.size 37 i0 (.agg #[.slice none 0 0, .string ⟨#[]⟩, .int .i64 0, .bool false]) 4 56 Tryd.underlying28 hi hz0 hz1 hz2 rfl (by decide) _ _ _ rfl HO7.out ⟨g9, 0, none⟩ _ _ [.slice A8 o.bs.length c8, .string ⟨#[]⟩, .int .i64 o.k, .bool true] rfl rfl (fun j u hj => by rw [add_zero_off, Nat.zero_add]; exact HC.out j u hj) (by intro u hu; simp at hu; rcases hu with rfl | rfl | rfl | rfl <;> rfl) (by unfold maxLen; omega) (by omega) hs7 ?_)
        intro v3 w9 hown2 hgrow _
        have hE9 := HE7.out.grown HO7.out tag_cut hgrow
        have hb9 : Below w.heap.size w w9 := HB7.out.grown hgrow hs7 HR7.out
        have he3 : w9.ownsRow w.heap.size 37 4 v3 (es' ++ [(⟨A8, o.bs.length, c8, o.bs, o.k, true⟩ : Pe)]).length (peCells (es' ++ [(⟨A8, o.bs.length, c8, o.bs, o.k, true⟩ : Pe)])) := by rw [peCells_append, List.length_append, hlj]; exact hown2
        have hm3 : (es' ++ [(⟨A8, o.bs.length, c8, o.bs, o.k, true⟩ : Pe)]).map Pe.is = (os.take (j + 1)).map Out.is := by rw [HT.out, List.map_append, HM.out]; simp only [List.map_cons, List.map_nil, Pe.is, Out.is, HOK.out]
        have hl3 : (es' ++ [(⟨A8, o.bs.length, c8, o.bs, o.k, true⟩ : Pe)]).length = j + 1 := by rw [List.length_append, hlj]; rfl
        generalize es' ++ [(⟨A8, o.bs.length, c8, o.bs, o.k, true⟩ : Pe)] = es3 at *
        have G1 := Lib.hid hE9
        have G2 := Lib.hid he3
        have G3 := Lib.hid hm3
        have G4 := Lib.hid hl3
        clear hE9 he3 hm3 hown2 hgrow HO7 HE7 HC hl3
        go_wp2
        go_roundw
        case rel => exact ⟨j + 1, es3, by omega, by go_num, G2.out, G4.out, G3.out, G1.out, hb9⟩
        case measure => simp [intOf]; omega
      · skip
        refine region_pick (Below w4.heap.size w4) [(0, false, none), (1, false, none), (3, false, none), (4, false, none), (2, true, none), (5, false, none), (6, true, none)] 7 (by kernel_rfl) (by kernel_rfl) (fun w w' h hb => h.trans (hb.mono h.size)) (hdr) ?_
        simp only [pickOps, List.getElem?_cons_zero, List.getElem?_cons_succ]
        repeat (first | (refine t_skip rfl ?_; (simp only [Act.put, List.setIfInBounds_toArray, List.set_cons_zero, List.set_cons_succ])) | (refine t_run ?_ rfl (fun w1 hw1 => ?_) ?_; rotate_left; (have r0 := r4 w1 hw1; go_simp; try (with_reducible rfl)); (simp only [Act.put, List.setIfInBounds_toArray, List.set_cons_zero, List.set_cons_succ])))
        refine t_fresh ?_ ?_ (fun v w' => FreshPI w.heap.size o.bs.length o.bs o.k v w') (by rfl) (fun w1 hw1 => ?_) (fun v w w' h hb => h.keep hb) (fun w1 hw1 => ?_) ?_
        rotate_left 2
        (go_simp; refine ⟨?_, ?_⟩ <;> with_reducible rfl)
        (go_at_call 19; (with_reducible refine (HFP.out w1 (hz.keep (hb4.trans (hw1.mono hb4.size)))).mono ?_); rintro e w2 ⟨v8, rfl, ⟨A8, c8, t8, rfl, ht8, hown8⟩, hb8⟩; exact ⟨_, rfl, ⟨A8, c8, t8, rfl, ht8, own_mono hown8 (hb4.trans (hw1.mono hb4.size)).size⟩, hb8⟩)
        rintro v8 ⟨-, -, A8, c8, t8, rfl, -, -⟩
        (simp only [Act.put, List.setIfInBounds_toArray, List.set_cons_zero, List.set_cons_succ])
        repeat (first | (refine t_skip rfl ?_; (simp only [Act.put, List.setIfInBounds_toArray, List.set_cons_zero, List.set_cons_succ])) | (refine t_run ?_ rfl (fun w1 hw1 => ?_) ?_; rotate_left; (go_simp; try (with_reducible rfl)); (simp only [Act.put, List.setIfInBounds_toArray, List.set_cons_zero, List.set_cons_succ])))
        refine t_new (fun v w' => LitRow w.heap.size 37 4 1 [.slice A8 o.bs.length c8, .string ⟨#[]⟩, .int .i64 o.k, .bool false] v w') (by rfl) (fun v w w' h hb => h.keep hb) (fun w1 hw1 => ?_) ?_
        refine ⟨?_, ?_, ?_, ?_, ?_⟩
        rotate_left 2
        (go_simp; first | (refine ⟨?_, ?_⟩ <;> with_reducible rfl) | with_reducible rfl)
        exact ⟨_, rfl, own_lit w1 #[.slice A8 o.bs.length c8, .string ⟨#[]⟩, .int .i64 o.k, .bool false] _ 4 1 _ (hb4.trans (hw1.1.mono hb4.size)).size rfl (by omega)⟩
        exact (Below.refl _ _).alloc (Nat.le_refl _) _
        rintro v9 ⟨-, -, g9, rfl, -⟩
        (simp only [Act.put, List.setIfInBounds_toArray, List.set_cons_zero, List.set_cons_succ])
        intro w7 ⟨⟨hw7, hf7⟩, hl7⟩
        simp only [List.drop_succ_cons, List.drop_zero]
        obtain ⟨g', hg1', hg2', hg3'⟩ := own_some hl7.own (by omega)
        injection hg1' with hg1'
        injection hg1' with hg1'
        subst hg1'
        have hb47 := hb4.trans (hw7.mono hb4.size)
        have hO7 := own_below hO4.out hw7
        have hI7 := hI4.out.below hw7
        obtain ⟨t7, ht7, hP7⟩ := hf7.own
        have hs7 : w.heap.size ≤ w7.heap.size := hb47.size
        have HO7 := Lib.hid hO7
        have HC := Lib.hid hg3'
        have HR7 := Lib.hid (own_row_ge hO7)
        have hE7 : ownPe w7 w.heap.size (es' ++ [⟨A8, o.bs.length, c8, o.bs, o.k, false⟩]) := fun y hy => by
          rcases List.mem_append.1 hy with hy | hy
          · exact hI7 y hy
          · simp at hy; subst hy; exact ⟨t7, ht7, hP7⟩
        have HE7 := Lib.hid hE7
        have HB7 := Lib.hid hb47
        clear hO7 hg3' hf7 hl7 hI7 hP7 hE7 HFP r4 hbk4 hb47 hb4 hO4 hI4
        go_wp2_with (at_builtin; refine wpList_append_own _ rfl _ _ 28 rfl w.heap.size 37 i0 (.agg #[.slice none 0 0, .string ⟨#[]⟩, .int .i64 0, .bool false]) 4 56 Tryd.underlying28 hi hz0 hz1 hz2 rfl (by decide) _ _ _ rfl HO7.out ⟨g9, 0, none⟩ _ _ [.slice A8 o.bs.length c8, .string ⟨#[]⟩, .int .i64 o.k, .bool false] rfl rfl (fun j u hj => by rw [add_zero_off, Nat.zero_add]; exact HC.out j u hj) (by intro u hu; simp at hu; rcases hu with rfl | rfl | rfl | rfl <;> rfl) (by unfold maxLen; omega) (by omega) hs7 ?_)
        intro v3 w9 hown2 hgrow _
        have hE9 := HE7.out.grown HO7.out tag_cut hgrow
        have hb9 : Below w.heap.size w w9 := HB7.out.grown hgrow hs7 HR7.out
        have he3 : w9.ownsRow w.heap.size 37 4 v3 (es' ++ [(⟨A8, o.bs.length, c8, o.bs, o.k, false⟩ : Pe)]).length (peCells (es' ++ [(⟨A8, o.bs.length, c8, o.bs, o.k, false⟩ : Pe)])) := by rw [peCells_append, List.length_append, hlj]; exact hown2
        have hm3 : (es' ++ [(⟨A8, o.bs.length, c8, o.bs, o.k, false⟩ : Pe)]).map Pe.is = (os.take (j + 1)).map Out.is := by rw [HT.out, List.map_append, HM.out]; simp only [List.map_cons, List.map_nil, Pe.is, Out.is, HOK.out]
        have hl3 : (es' ++ [(⟨A8, o.bs.length, c8, o.bs, o.k, false⟩ : Pe)]).length = j + 1 := by rw [List.length_append, hlj]; rfl
        generalize es' ++ [(⟨A8, o.bs.length, c8, o.bs, o.k, false⟩ : Pe)] = es3 at *
        have G1 := Lib.hid hE9
        have G2 := Lib.hid he3
        have G3 := Lib.hid hm3
        have G4 := Lib.hid hl3
        clear hE9 he3 hm3 hown2 hgrow HO7 HE7 HC hl3
        go_wp2
        go_roundw
        case rel => exact ⟨j + 1, es3, by omega, by go_num, G2.out, G4.out, G3.out, G1.out, hb9⟩
        case measure => simp [intOf]; omega
    · obtain rfl : j = n := by omega
      have hm3 := HM.out
      rw [List.take_of_length_le (by omega)] at hm3
      obtain ⟨A', c', rfl⟩ := own_slice HO.out
      have HM3 := Lib.hid hm3
      clear hm3
      go_wp2
      go_returns
      exact ⟨A', c', es', rfl, HO.out, HM3.out, HI.out, hbb⟩
end Go.Proofs.YtnoolheinkeocaaDoor
