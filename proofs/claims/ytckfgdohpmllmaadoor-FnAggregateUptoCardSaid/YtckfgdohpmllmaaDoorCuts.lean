/-
  Lists of cuts; contract of impl.PrefixesOf at valid numbers of bits.
-/
import Derived.Test.YtckfgdohpmllmaaDoorFromPf
import Derived.Test.YtckfgdohpmllmaaDoorOvEach
namespace Go.Proofs.YtckfgdohpmllmaaDoor
open Go Go.RowKit
def ctCells (es : List Pf) : List Value := es.flatMap fun e => [.slice e.a e.n e.c, .string ⟨#[]⟩, .int .i64 e.k, .bool true]
theorem ctCells_len (es : List Pf) : (ctCells es).length = es.length * 4 := by
  induction es with
  | nil => rfl
  | cons x r ih => simp only [ctCells, List.flatMap_cons, List.length_append, List.length_cons, List.length_nil] at *; omega
theorem ctCells_append (es fs : List Pf) : ctCells (es ++ fs) = ctCells es ++ ctCells fs := by simp [ctCells]
theorem ctCells_get (es : List Pf) (i : Nat) (hi : i < es.length) : (ctCells es)[i * 4]? = some (.slice es[i].a es[i].n es[i].c) ∧ (ctCells es)[i * 4 + 1]? = some (.string ⟨#[]⟩) ∧ (ctCells es)[i * 4 + 2]? = some (.int .i64 es[i].k) ∧ (ctCells es)[i * 4 + 3]? = some (.bool true) := by
  induction es generalizing i with
  | nil => simp at hi
  | cons x r ih =>
    cases i with
    | zero => exact ⟨rfl, rfl, rfl, rfl⟩
    | succ i =>
      have := ih i (by simpa using hi)
      have e1 : (i + 1) * 4 = i * 4 + 4 := by omega
      simp only [e1, ctCells, List.flatMap_cons, List.cons_append, List.nil_append, List.getElem_cons_succ] at this ⊢
      exact ⟨this.1, this.2.1, this.2.2.1, this.2.2.2⟩
/-- Own bytes, in whatever rows. -/
def ownPT (w : World) (B : Nat) (es : List Pf) : Prop := ∀ e ∈ es, ∃ t, byteTag t ∧ w.ownsRow B t 1 (.slice e.a e.n e.c) e.n (Lib.byteCells e.bs)
theorem ownPT.below {w w' : World} {B : Nat} {es : List Pf} (h : ownPT w B es) (hb : Below w.heap.size w w') : ownPT w' B es := fun e he => by
  obtain ⟨t, ht, ho⟩ := h e he
  exact ⟨t, ht, own_below ho hb⟩
theorem ownPT.grown {w w' : World} {B b2 : Nat} {e2 : TypeId} {s2 : Nat} {v2 : Value} {n2 : Nat} {x2 : List Value} {es : List Pf} (h : ownPT w B es) (h2 : w.ownsRow b2 e2 s2 v2 n2 x2) (hne : ∀ t, byteTag t → t ≠ e2) (hg : w.grownBy w' v2.ownBlock) : ownPT w' B es := fun e he => by
  obtain ⟨t, ht, ho⟩ := h e he
  exact ⟨t, ht, ho.kept hg (own_ne ho h2 (hne t ht))⟩
theorem infoCut : (Tryd.prog.info? 42).map (fun i => (i.zero, i.size, i.bytes)) = some (some (.agg #[.slice none 0 0, .string ⟨#[]⟩, .int .i64 0, .bool false]), 4, 56) := by kernel_rfl
theorem tag_cut : ∀ t, byteTag t → t ≠ 42 := fun _ ht => ht.ne (by decide) (by decide) (by decide)
/-- What PrefixesOf makes. -/
def cutsOf (bs : List UInt8) (xs : List Nat) : List (List UInt8 × Nat) := xs.map fun b => (wb bs b false, b)
def CutsPost (w : World) (l : List (List UInt8 × Nat)) (e : Ending) (w' : World) : Prop :=
  ∃ A c es, e = .returned (.slice A es.length c) ∧ w'.ownsRow w.heap.size 42 4 (.slice A es.length c) es.length (ctCells es) ∧ es.map Pf.is = l ∧ ownPT w' w.heap.size es ∧ Below w.heap.size w w'
theorem FreshPT.keep {B n : Nat} {bs : List UInt8} {k : Nat} {v : Value} {w w' : World} (h : FreshPT B n bs k v w) (hb : Below w.heap.size w w') : FreshPT B n bs k v w' := by
  obtain ⟨A, c, t, h1, h2, h3⟩ := h
  exact ⟨A, c, t, h1, h2, own_below h3 hb⟩
theorem FreshPT.own {B n : Nat} {bs : List UInt8} {k : Nat} {A : Option Addr} {c : Nat} {w : World} (h : FreshPT B n bs k (.agg #[.slice A n c, .string ⟨#[]⟩, .int .i64 k]) w) : ∃ t, byteTag t ∧ w.ownsRow B t 1 (.slice A n c) n (Lib.byteCells bs) := by
  obtain ⟨A', c', t, h1, h2, h3⟩ := h
  injection h1 with h1
  simp only [Array.mk.injEq, List.cons.injEq, Value.slice.injEq, and_true] at h1
  obtain ⟨rfl, -, rfl⟩ := h1
  exact ⟨t, h2, h3⟩
/-- A list of numbers that can be read. -/
def RN (w : World) (A : Option Addr) (n : Nat) (xs : List Nat) : Prop := xs.length = n ∧ RC w A (xs.map fun (x : Nat) => Value.int .i64 (x : Int))
theorem RN.keep {w w' : World} {A : Option Addr} {n : Nat} {xs : List Nat} (h : RN w A n xs) (hb : Below w.heap.size w w') : RN w' A n xs := ⟨h.1, h.2.keep hb⟩
theorem RN.at {w : World} {A : Option Addr} {n : Nat} {xs : List Nat} (h : RN w A n xs) {i : Nat} (hi : i < n) : ∃ g o x, A = some ⟨g, o, none⟩ ∧ g < w.heap.size ∧ xs[i]? = some x ∧ w.cell? ⟨g, o + i, none⟩ = some (.int .i64 x) := by
  have hl : i < xs.length := by rw [h.1]; exact hi
  obtain ⟨g, o, hA, hg, hc⟩ := h.2 (by rw [List.length_map]; omega)
  exact ⟨g, o, xs[i], hA, hg, List.getElem?_eq_getElem hl, hc i _ (by simp [hl])⟩
set_option maxRecDepth 100000 in
set_option maxHeartbeats 8000000 in
theorem prefixesOf_c (A0 : Option Addr) (n0 c0 : Nat) (bs : List UInt8) (B : Option Addr) (m d : Nat) (xs : List Nat) (z : ZP) (w : World) (hz : Zs w z) (hr : RB w A0 n0 bs) (hl : isLen bs.length) (hx : RN w B m xs) (hv : ∀ x ∈ xs, x ≤ 8 * bs.length) (hm : m ≤ 1099511627776) :
    Calls Tryd.prog 25 #[.agg #[.slice A0 n0 c0, .string ⟨#[]⟩], .slice B m d] w (CutsPost w (cutsOf bs xs)) := by
  obtain ⟨i0, hi, hz0, hz1, hz2⟩ := info_parts infoCut
  obtain rfl : n0 = bs.length := hr.1.symm
  have HV := Lib.hid hv
  clear hv
  go_enter Tryd.func25, Tryd.ntmps25
  go_wp2_with fail
  go_loopw [5, 12] (fun v i wr => ∃ (j : Nat) (es' : List Pf), j ≤ m ∧ i = .int .i64 j ∧ wr.ownsRow (w.heap.size + 1) 42 4 v es'.length (ctCells es') ∧ es'.length ≤ j ∧ es'.map Pf.is = cutsOf bs (xs.take j) ∧ ownPT wr w.heap.size es' ∧ Boxes w [#[.slice A0 bs.length c0, .string ⟨#[]⟩]] wr) (fun _ i _ => m - (intOf i).toNat)
  case atStart => exact ⟨0, [], Nat.zero_le _, rfl, World.ownsRow_nil _ _ _ _, Nat.le_refl _, rfl, fun e he => (by simp at he), boxes1 _ _⟩
  case round =>
    obtain ⟨j, es', hj, rfl, hown, hlj, hmap, hin, hbx⟩ := hrel
    have HO := Lib.hid hown
    have HM := Lib.hid hmap
    have HI := Lib.hid hin
    clear hown hmap hin
    by_cases hlt : j < m
    · obtain ⟨g1, o1, x, hB, hg1, hxj, hcx⟩ := (hx.keep hbx.below).at hlt
      subst hB
      have hxv := HV.out x (List.mem_of_getElem? hxj)
      have htk : cutsOf bs (xs.take (j + 1)) = cutsOf bs (xs.take j) ++ [(wb bs x false, x)] := by
        unfold cutsOf; rw [List.take_add_one, hxj, Option.toList_some, List.map_append]; rfl
      have HT := Lib.hid htk
      clear htk hxj
      have b0 := hbx.b0
      go_wp2_with fail
      refine (address_c A0 bs.length c0 bs z wr (hz.keep hbx.below) (hr.keep hbx.below)).mono ?_
      rintro e1 w2 ⟨rfl, hb2⟩
      have hbx2 := hbx.keep hb2
      go_wp2_with fail
      refine (aPrefix_c bs x z w2 (hz.keep hbx2.below) hl hxv).mono ?_
      rintro e1 w3 ⟨rfl, hb3⟩
      have hbx3 := hbx2.keep hb3
      have hb23 := hb2.trans (hb3.mono hb2.size)
      clear b0 hbx2 hb2 hb3
      have hmk : (adOf (wb bs x false)).k = (adOf bs).k := (mask_ad bs x hl hxv).2.2
      have hml : (wb bs x false).length = bs.length := wb_len _ _ _
      have hx128 : x ≤ 128 := by unfold isLen at hl; omega
      have hfp := fun w hz => fromPrefix_c (wb bs x false) x z w hz (by rw [hml]; exact hl) hx128
      rw [hmk, hml] at hfp
      have HFP := Lib.hid hfp
      clear hfp hmk hml
      generalize (adOf (wb bs x false)).h = mh at *
      generalize (adOf (wb bs x false)).l = ml at *
      generalize (adOf bs).k = kk at *
      have hx4 : Below w3.heap.size w3 (w3.alloc (.cells #[.int .u64 mh, .int .u64 ml, .pointer (z.ptr kk), .int .u8 ((x : Int) + 1)] 75)) := (Below.refl _ _).alloc (Nat.le_refl _) _
      have hbk4 : Blk (w3.alloc (.cells #[.int .u64 mh, .int .u64 ml, .pointer (z.ptr kk), .int .u8 ((x : Int) + 1)] 75)) w3.heap.size 75 #[.int .u64 mh, .int .u64 ml, .pointer (z.ptr kk), .int .u8 ((x : Int) + 1)] := heap_alloc_new _ _
      have hbx4 := hbx3.keep hx4
      have hb4 := hb23.trans (hx4.mono hb23.size)
      obtain ⟨g4, hg4⟩ : ∃ g4, g4 = w3.heap.size := ⟨_, rfl⟩
      have HG4 := Lib.hid hg4
      clear hx4 hbx3 hb23 hg4
      go_wp2_with fail
      rw [← HG4.out] at hbk4 ⊢
      generalize w3.alloc (.cells #[.int .u64 mh, .int .u64 ml, .pointer (z.ptr kk), .int .u8 ((x : Int) + 1)] 75) = w4 at *
      clear HG4 hcx
      have l4 := hbk4.lt
      have r4 : ∀ w', Below w4.heap.size w4 w' → ∀ i, w'.cell? ⟨g4, i, none⟩ = #[Value.int .u64 mh, .int .u64 ml, .pointer (z.ptr kk), .int .u8 ((x : Int) + 1)][i]? := fun w' h i => (h.cell (p := ⟨g4, i, none⟩) l4).trans (hbk4.cell i)
      have hdr : Below w4.heap.size w4 w4.drew := ⟨rfl, rfl, rfl, Nat.le_refl _, fun _ _ => rfl⟩
      refine region_pick (Below w4.heap.size w4) [(0, false, none), (1, false, none), (3, false, none), (4, false, none), (2, true, none), (5, false, none), (6, true, none)] 7 (by kernel_rfl) (by kernel_rfl) (fun w w' h hb => h.trans (hb.mono h.size)) (hdr) ?_
      simp only [pickOps, List.getElem?_cons_zero, List.getElem?_cons_succ]
      repeat (first | (refine t_skip rfl ?_; (simp only [Act.put, List.setIfInBounds_toArray, List.set_cons_zero, List.set_cons_succ])) | (refine t_run ?_ rfl (fun w1 hw1 => ?_) ?_; rotate_left; (have r0 := r4 w1 hw1; go_simp; try (with_reducible rfl)); (simp only [Act.put, List.setIfInBounds_toArray, List.set_cons_zero, List.set_cons_succ])))
      refine t_fresh ?_ ?_ (fun v w' => FreshPT w.heap.size bs.length (wb bs x false) x v w') (by rfl) (fun w1 hw1 => ?_) (fun v w w' h hb => h.keep hb) (fun w1 hw1 => ?_) ?_
      rotate_left 2
      (go_simp; refine ⟨?_, ?_⟩ <;> with_reducible rfl)
      (go_at_call 45; (with_reducible refine (HFP.out w1 (hz.keep (hbx4.keep hw1).below)).mono ?_); rintro e w2 ⟨v8, rfl, ⟨A8, c8, t8, rfl, ht8, hown8⟩, hb8⟩; exact ⟨_, rfl, ⟨A8, c8, t8, rfl, ht8, own_mono hown8 (hbx4.keep hw1).below.size⟩, hb8⟩)
      rintro v8 ⟨-, -, A8, c8, t8, rfl, -, -⟩
      (simp only [Act.put, List.setIfInBounds_toArray, List.set_cons_zero, List.set_cons_succ])
      repeat (first | (refine t_skip rfl ?_; (simp only [Act.put, List.setIfInBounds_toArray, List.set_cons_zero, List.set_cons_succ])) | (refine t_run ?_ rfl (fun w1 hw1 => ?_) ?_; rotate_left; (go_simp; try (with_reducible rfl)); (simp only [Act.put, List.setIfInBounds_toArray, List.set_cons_zero, List.set_cons_succ])))
      refine t_new (fun v w' => LitRow w.heap.size 42 4 1 [.slice A8 bs.length c8, .string ⟨#[]⟩, .int .i64 x, .bool true] v w') (by rfl) (fun v w w' h hb => h.keep hb) (fun w1 hw1 => ?_) ?_
      refine ⟨?_, ?_, ?_, ?_, ?_⟩
      rotate_left 2
      (go_simp; first | (refine ⟨?_, ?_⟩ <;> with_reducible rfl) | with_reducible rfl)
      exact ⟨_, rfl, own_lit w1 #[.slice A8 bs.length c8, .string ⟨#[]⟩, .int .i64 x, .bool true] _ 4 1 _ (hbx4.keep hw1.1).below.size rfl (by omega)⟩
      exact (Below.refl _ _).alloc (Nat.le_refl _) _
      rintro v9 ⟨-, -, g9, rfl, -⟩
      (simp only [Act.put, List.setIfInBounds_toArray, List.set_cons_zero, List.set_cons_succ])
      intro w7 ⟨⟨hw7, hf7⟩, hl7⟩
      simp only [List.drop_succ_cons, List.drop_zero]
      obtain ⟨g', hg1', hg2', hg3'⟩ := own_some hl7.own (by omega)
      injection hg1' with hg1'
      injection hg1' with hg1'
      subst hg1'
      have hb47 := hb4.trans (hw7.mono hb4.size)
      have hO7 := own_below HO.out hb47
      have hI7 := HI.out.below hb47
      obtain ⟨t7, ht7, hP7⟩ := hf7.own
      have hbx7 := hbx4.keep hw7
      have hs7 : w.heap.size + 1 ≤ w7.heap.size := hbx7.size
      have HO7 := Lib.hid hO7
      have HC := Lib.hid hg3'
      have HR7 := Lib.hid (own_row_ge hO7)
      have hE7 : ownPT w7 w.heap.size (es' ++ [⟨A8, bs.length, c8, wb bs x false, x⟩]) := fun y hy => by
        rcases List.mem_append.1 hy with hy | hy
        · exact hI7 y hy
        · simp at hy; subst hy; exact ⟨t7, ht7, hP7⟩
      have HE7 := Lib.hid hE7
      clear hO7 hg3' hf7 hl7 HI HO hI7 hP7 hE7 HFP r4 hbk4 hb47 hbx4 hb4
      go_wp2_with (at_builtin; refine wpList_append_own _ rfl _ _ 38 rfl (w.heap.size + 1) 42 i0 (.agg #[.slice none 0 0, .string ⟨#[]⟩, .int .i64 0, .bool false]) 4 56 Tryd.underlying38 hi hz0 hz1 hz2 rfl (by decide) _ _ _ rfl HO7.out ⟨g9, 0, none⟩ _ _ [.slice A8 bs.length c8, .string ⟨#[]⟩, .int .i64 x, .bool true] rfl rfl (fun j u hj => by rw [add_zero_off, Nat.zero_add]; exact HC.out j u hj) (by intro u hu; simp at hu; rcases hu with rfl | rfl | rfl | rfl <;> rfl) (by unfold maxLen; omega) (by omega) hs7 ?_)
      intro v3 w9 hown2 hgrow _
      have hE9 := HE7.out.grown HO7.out tag_cut hgrow
      have hbx9 := hbx7.grown hgrow (by simp; exact HR7.out)
      have he3 : w9.ownsRow (w.heap.size + 1) 42 4 v3 (es' ++ [(⟨A8, bs.length, c8, wb bs x false, x⟩ : Pf)]).length (ctCells (es' ++ [(⟨A8, bs.length, c8, wb bs x false, x⟩ : Pf)])) := by rw [ctCells_append, List.length_append]; exact hown2
      have hm3 : (es' ++ [(⟨A8, bs.length, c8, wb bs x false, x⟩ : Pf)]).map Pf.is = cutsOf bs (xs.take (j + 1)) := by rw [HT.out, List.map_append, HM.out]; rfl
      have hl3 : (es' ++ [(⟨A8, bs.length, c8, wb bs x false, x⟩ : Pf)]).length ≤ j + 1 := by rw [List.length_append]; simp; omega
      generalize es' ++ [(⟨A8, bs.length, c8, wb bs x false, x⟩ : Pf)] = es3 at *
      have G1 := Lib.hid hE9
      have G2 := Lib.hid he3
      have G3 := Lib.hid hm3
      have G4 := Lib.hid hl3
      clear hE9 he3 hm3 hown2 hgrow HO7 HE7 HC hbx7 hl3
      go_wp2
      go_roundw
      case rel => exact ⟨j + 1, es3, by omega, by go_num, G2.out, G4.out, G3.out, G1.out, hbx9⟩
      case measure => simp [intOf]; omega
    · obtain rfl : j = m := by omega
      have hm3 := HM.out
      rw [List.take_of_length_le (by rw [hx.1]; omega)] at hm3
      have hb := hbx.below
      obtain ⟨A', c', rfl⟩ := own_slice HO.out
      have HM3 := Lib.hid hm3
      clear hm3
      go_wp2
      go_returns
      exact ⟨A', c', es', rfl, own_mono HO.out (by omega), HM3.out, HI.out, hb⟩
end Go.Proofs.YtckfgdohpmllmaaDoor
