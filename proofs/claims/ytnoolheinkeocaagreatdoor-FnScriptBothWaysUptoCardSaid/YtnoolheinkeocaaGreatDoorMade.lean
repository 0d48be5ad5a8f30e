/-
  Lists of prefixes; contract of laws.made.
-/
import Derived.Test.YtnoolheinkeocaaGreatDoorPfx
import Derived.Test.YtnoolheinkeocaaGreatDoorEqual
import Derived.Test.YtnoolheinkeocaaGreatDoorBlk
namespace Go.Proofs.YtnoolheinkeocaaGreatDoor
open Go Go.RowKit
/-- A new prefix. -/
def FreshPf (B n : Nat) (bs : List UInt8) (k : Nat) (v : Value) (w : World) : Prop := ∃ A c, v = .agg #[.slice A n c, .string ⟨#[]⟩, .int .i64 k] ∧ w.ownsRow B 5 1 (.slice A n c) n (Lib.byteCells bs)
theorem FreshPf.keep {B n : Nat} {bs : List UInt8} {k : Nat} {v : Value} {w w' : World} (h : FreshPf B n bs k v w) (hb : Below w.heap.size w w') : FreshPf B n bs k v w' := by
  obtain ⟨A, c, h1, h2⟩ := h
  exact ⟨A, c, h1, own_below h2 hb⟩
/-- A new address without a zone, of the call's own. -/
def FreshOw (B n : Nat) (bs : List UInt8) (v : Value) (w : World) : Prop := ∃ A c, v = .agg #[.slice A n c, .string ⟨#[]⟩] ∧ w.ownsRow B 5 1 (.slice A n c) n (Lib.byteCells bs)
theorem FreshOw.keep {B n : Nat} {bs : List UInt8} {v : Value} {w w' : World} (h : FreshOw B n bs v w) (hb : Below w.heap.size w w') : FreshOw B n bs v w' := by
  obtain ⟨A, c, h1, h2⟩ := h
  exact ⟨A, c, h1, own_below h2 hb⟩
theorem FreshOw.own {B n : Nat} {bs : List UInt8} {A : Option Addr} {c : Nat} {w : World} (h : FreshOw B n bs (.agg #[.slice A n c, .string ⟨#[]⟩]) w) : w.ownsRow B 5 1 (.slice A n c) n (Lib.byteCells bs) := by
  obtain ⟨A', c', h1, h2⟩ := h
  injection h1 with h1
  simp only [Array.mk.injEq, List.cons.injEq, Value.slice.injEq, and_true] at h1
  obtain ⟨rfl, -, rfl⟩ := h1
  exact h2
/-- A prefix in a list: its slice value, its bytes, the number of bits. The zone is empty. -/
structure Pf where
  a : Option Addr
  n : Nat
  c : Nat
  bs : List UInt8
  k : Nat
def Pf.cells (e : Pf) : List Value := [.slice e.a e.n e.c, .string ⟨#[]⟩, .int .i64 e.k]
def Pf.is (e : Pf) : List UInt8 × Nat := (e.bs, e.k)
def pfCells (es : List Pf) : List Value := es.flatMap Pf.cells
theorem pfCells_len (es : List Pf) : (pfCells es).length = es.length * 3 := by
  induction es with
  | nil => rfl
  | cons x r ih => simp only [pfCells, List.flatMap_cons, List.length_append, List.length_cons] at *; simp only [Pf.cells, List.length_cons, List.length_nil]; omega
theorem pfCells_append (es fs : List Pf) : pfCells (es ++ fs) = pfCells es ++ pfCells fs := by simp [pfCells]
theorem pfCells_get (es : List Pf) (i : Nat) (hi : i < es.length) : (pfCells es)[i * 3]? = some (.slice es[i].a es[i].n es[i].c) ∧ (pfCells es)[i * 3 + 1]? = some (.string ⟨#[]⟩) ∧ (pfCells es)[i * 3 + 2]? = some (.int .i64 es[i].k) := by
  induction es generalizing i with
  | nil => simp at hi
  | cons x r ih =>
    cases i with
    | zero => exact ⟨rfl, rfl, rfl⟩
    | succ i =>
      have := ih i (by simpa using hi)
      have e1 : (i + 1) * 3 = i * 3 + 3 := by omega
      simp only [e1, pfCells, List.flatMap_cons, Pf.cells, List.cons_append, List.nil_append, List.getElem_cons_succ] at this ⊢
      exact ⟨this.1, this.2.1, this.2.2⟩
/-- A valid prefix. -/
def Vp (p : List UInt8 × Nat) : Prop := isLen p.1.length ∧ p.2 ≤ 8 * p.1.length
/-- A list of prefixes that can be read. -/
def RP (w : World) (A : Option Addr) (n : Nat) (es : List Pf) : Prop :=
  es.length = n ∧ RC w A (pfCells es) ∧ ∀ e ∈ es, RB w e.a e.n e.bs
theorem RP.keep {w w' : World} {A : Option Addr} {n : Nat} {es : List Pf} (h : RP w A n es) (hb : Below w.heap.size w w') : RP w' A n es :=
  ⟨h.1, h.2.1.keep hb, fun e he => (h.2.2 e he).keep hb⟩
theorem RP.at {w : World} {A : Option Addr} {n : Nat} {es : List Pf} (h : RP w A n es) {i : Nat} (hi : i < n) :
    ∃ g o e, A = some ⟨g, o, none⟩ ∧ g < w.heap.size ∧ es[i]? = some e ∧ w.cell? ⟨g, o + i * 3, none⟩ = some (.slice e.a e.n e.c) ∧ w.cell? ⟨g, o + i * 3 + 1, none⟩ = some (.string ⟨#[]⟩) ∧ w.cell? ⟨g, o + i * 3 + 2, none⟩ = some (.int .i64 e.k) ∧ RB w e.a e.n e.bs := by
  have hl : i < es.length := by rw [h.1]; exact hi
  obtain ⟨g, o, hA, hg, hc⟩ := h.2.1 (by rw [pfCells_len]; omega)
  have he := pfCells_get es i hl
  exact ⟨g, o, es[i], hA, hg, List.getElem?_eq_getElem hl, hc _ _ he.1, hc _ _ he.2.1, hc _ _ he.2.2, h.2.2 _ (List.getElem_mem hl)⟩
def ownPf (w : World) (B : Nat) (es : List Pf) : Prop := ∀ e ∈ es, w.ownsRow B 5 1 (.slice e.a e.n e.c) e.n (Lib.byteCells e.bs)
theorem ownPf.below {w w' : World} {B : Nat} {es : List Pf} (h : ownPf w B es) (hb : Below w.heap.size w w') : ownPf w' B es := fun e he => own_below (h e he) hb
theorem ownPf.grown {w w' : World} {B b2 : Nat} {e2 : TypeId} {s2 : Nat} {v2 : Value} {n2 : Nat} {x2 : List Value} {es : List Pf} (h : ownPf w B es) (h2 : w.ownsRow b2 e2 s2 v2 n2 x2) (hne : 5 ≠ e2) (hg : w.grownBy w' v2.ownBlock) : ownPf w' B es :=
  fun e he => (h e he).kept hg (own_ne (h e he) h2 hne)
theorem RP.of_own {w : World} {B b2 : Nat} {A : Option Addr} {n c : Nat} {es : List Pf} (h : w.ownsRow b2 32 3 (.slice A n c) n (pfCells es)) (hl : es.length = n) (hi : ownPf w B es) : RP w A n es :=
  ⟨hl, RC.of_own h, fun e he => RB.of_own (hi e he)⟩
theorem infoPf : (Tryz.prog.info? 32).map (fun i => (i.zero, i.size, i.bytes)) = some (some (.agg #[.slice none 0 0, .string ⟨#[]⟩, .int .i64 0]), 3, 48) := by kernel_rfl
/-- What made makes. -/
def madeZ (l : List (List UInt8 × UInt8)) : List (List UInt8 × Nat) := (l.filter fun p => decide (isLen p.1.length)).map fun p => (p.1, p.2.toNat % (8 * p.1.length + 1))
theorem madeZ_take (l : List (List UInt8 × UInt8)) (j : Nat) (p : List UInt8 × UInt8) (h : l[j]? = some p) : madeZ (l.take (j + 1)) = madeZ (l.take j) ++ if isLen p.1.length then [(p.1, p.2.toNat % (8 * p.1.length + 1))] else [] := by
  unfold madeZ
  rw [List.take_add_one, h, Option.toList_some, List.filter_append, List.map_append]
  congr 1
  by_cases hp : isLen p.1.length
  · simp [hp]
  · simp [hp]
theorem madeZ_valid (l : List (List UInt8 × UInt8)) : ∀ p ∈ madeZ l, Vp p := by
  intro p hp
  unfold madeZ at hp
  obtain ⟨q, hq, rfl⟩ := List.mem_map.1 hp
  have := (List.mem_filter.1 hq).2
  simp at this
  exact ⟨this, by have := Nat.mod_lt q.2.toNat (show 0 < 8 * q.1.length + 1 by omega); simp only; omega⟩
/-- Own prefixes. -/
def OwnL (B : Nat) (ps : List (List UInt8 × Nat)) (v : Value) (w : World) : Prop :=
  ∃ A c es, v = .slice A es.length c ∧ w.ownsRow B 32 3 (.slice A es.length c) es.length (pfCells es) ∧ es.map Pf.is = ps ∧ ownPf w B es
/-- One more element, appended. -/
theorem pf_push {w wr W w3 : World} {es' : List Pf} {A' : Option Addr} {n c' k : Nat} {bs : List UInt8} {v : Value} (hbb : Below w.heap.size w wr) (HO : wr.ownsRow w.heap.size 32 3 v es'.length (pfCells es')) (HI : ownPf wr w.heap.size es')
    (HP : W.ownsRow w.heap.size 5 1 (.slice A' n c') n (Lib.byteCells bs)) (hW : Below wr.heap.size wr W) (hgrow : W.grownBy w3 v.ownBlock) :
    ownPf w3 w.heap.size (es' ++ [⟨A', n, c', bs, k⟩]) ∧ Below w.heap.size w w3 := by
  have hE : ownPf W w.heap.size (es' ++ [⟨A', n, c', bs, k⟩]) := fun x hx' => by
    rcases List.mem_append.1 hx' with hx' | hx'
    · exact (HI.below hW) x hx'
    · simp at hx'; subst hx'; exact HP
  refine ⟨hE.grown (own_below HO hW) (by decide) hgrow, (hbb.trans (hW.mono hbb.size)).grown hgrow (Nat.le_trans hbb.size hW.size) (own_row_ge HO)⟩
set_option maxRecDepth 100000 in
set_option maxHeartbeats 8000000 in
theorem made_c (A : Option Addr) (n c : Nat) (es : List En) (B : Option Addr) (m d : Nat) (xs : List UInt8) (w : World) (hl : RS w A n es) (hn : n ≤ 1099511627776) (hx : RB w B m xs) (hm : m ≤ 140737488355328) :
    Calls Tryz.prog 4 #[.slice A n c, .slice B m d] w fun e w' => ∃ v, e = .returned v ∧ OwnL w.heap.size (madeZ ((es.map (·.bs)).zip xs)) v w' ∧ Below w.heap.size w w' := by
  obtain ⟨i0, hi, hz0, hz1, hz2⟩ := info_parts infoPf
  have hmin : min (n : Int) (m : Int) = ((min n m : Nat) : Int) := by omega
  have hzl : ((es.map (·.bs)).zip xs).length = min n m := by rw [List.length_zip, List.length_map, hl.1, hx.1]
  obtain ⟨zl, hzz⟩ : ∃ zl, zl = (es.map (·.bs)).zip xs := ⟨_, rfl⟩
  rw [← hzz] at hzl ⊢
  have HZ := Lib.hid hzz
  clear hzz
  go_enter Tryz.func4, Tryz.ntmps4
  by_cases hmn : m < n
  · have hmi : min n m = m := by omega
    go_wp2_with fail
    go_loopw [5, 12] (fun v i wr => ∃ (j : Nat) (es' : List Pf), j ≤ m ∧ i = .int .i64 j ∧ wr.ownsRow w.heap.size 32 3 v es'.length (pfCells es') ∧ es'.length ≤ j ∧ es'.map Pf.is = madeZ (zl.take j) ∧ ownPf wr w.heap.size es' ∧ Below w.heap.size w wr) (fun _ i _ => m - (intOf i).toNat)
    case atStart => exact ⟨0, [], Nat.zero_le _, rfl, World.ownsRow_nil _ _ _ _, Nat.le_refl _, rfl, fun e he => (by simp at he), Below.refl _ _⟩
    case round =>
      obtain ⟨j, es', hj, rfl, hown, hlen, hmap, hin, hbb⟩ := hrel
      have HM := Lib.hid hmap
      have HI := Lib.hid hin
      have HO := Lib.hid hown
      clear hmap hin hown
      by_cases hlt : j < m
      · obtain ⟨g1, o1, e, hA, hg1, hek, hc0, hb, hnil, hcap⟩ := (hl.keep hbb).at (i := j) (by omega)
        subst hA
        obtain ⟨g2, o2, hB, hg2, hc2⟩ := (hx.keep hbb).2 (by omega)
        subst hB
        have hcx := hc2 j (by omega)
        have hzj : zl[j]? = some (e.bs, xs.getD j 0) := by
          rw [HZ.out, List.getElem?_zip_eq_some]
          have hxl : j < xs.length := by rw [hx.1]; omega
          exact ⟨by rw [List.getElem?_map, hek]; rfl, by simp [List.getD, hxl]⟩
        have hmt := madeZ_take zl j _ hzj
        simp only at hmt
        have HMT := Lib.hid hmt
        have hel := hb.1
        have hx256 : (xs.getD j 0).toNat < 256 := (xs.getD j 0).toBitVec.isLt
        generalize (xs.getD j 0).toNat = x at *
        have HNIL := Lib.hid hnil
        clear hek hzj hc2 hmt hnil
        go_wp2_with fail
        refine (isAddress_c e.a e.n e.c wr).mono ?_
        rintro e1 w0 ⟨rfl, hb0⟩
        have hbb0 := hbb.trans (hb0.mono hbb.size)
        by_cases hla : (e.n == 4 || e.n == 16) = true
        · rw [hla]
          have hisl : isLen e.bs.length := by rw [hel]; simpa [isLen] using hla
          have q0 : (0 : Int) ≤ j ∧ (j : Int) < n := by omega
          have q1 : (0 : Int) ≤ j ∧ (j : Int) < m := by omega
          have q2 : IntKind.i64.wrap (8 * (e.n : Int)) = 8 * (e.n : Int) := by rw [IntKind.wrap_i64]; omega
          have q3 : IntKind.i64.wrap (8 * (e.n : Int) + 1) = 8 * (e.n : Int) + 1 := by rw [IntKind.wrap_i64]; omega
          have q4 : (x : Int).tmod (8 * (e.n : Int) + 1) = ((x % (8 * e.n + 1) : Nat) : Int) := by rw [Int.tmod_eq_emod_of_nonneg (by omega)]; push_cast; rfl
          have q5 : IntKind.i64.wrap ((x % (8 * e.n + 1) : Nat) : Int) = ((x % (8 * e.n + 1) : Nat) : Int) := by rw [IntKind.wrap_i64]; have := Nat.mod_lt x (show 0 < 8 * e.n + 1 by omega); omega
          have q6 : ¬ 8 * (e.n : Int) + 1 = 0 := by omega
          have q7 : IntKind.i64.wrap (x : Int) = x := by rw [IntKind.wrap_i64]; omega
          have HQ := Lib.hid (And.intro q0 (And.intro q1 (And.intro q2 (And.intro q3 (And.intro q4 (And.intro q5 (And.intro q6 q7)))))))
          clear q0 q1 q2 q3 q4 q5 q6 q7
          generalize hy : x % (8 * e.n + 1) = y at *
          have hdr : Below w0.heap.size w0 w0.drew := ⟨rfl, rfl, rfl, Nat.le_refl _, fun _ _ => rfl⟩
          have hcx0 := (hb0.cell (p := ⟨g2, o2 + j, none⟩) hg2).trans hcx
          have hc00 := (hb0.cell (p := ⟨g1, o1 + j, none⟩) hg1).trans hc0
          have hg10 := Nat.lt_of_lt_of_le hg1 hb0.size
          have hg20 := Nat.lt_of_lt_of_le hg2 hb0.size
          have hrb0 := hb.keep hb0
          clear hcx hc0
          go_wp2_with fail
          refine region_pick (Below w0.heap.size w0) [(0, false, none), (1, false, none), (2, false, none), (3, false, none), (4, false, none), (6, false, none), (7, false, none), (8, false, none), (9, false, none), (10, false, none), (11, false, none), (12, false, none), (13, false, none), (14, false, none), (15, false, none), (16, false, none), (17, false, none), (18, false, none), (5, true, none), (19, false, none), (20, true, none)] 21 (by kernel_rfl) (by kernel_rfl) (fun w w' h hb => h.trans (hb.mono h.size)) (hdr) ?_
          simp only [pickOps, List.getElem?_cons_zero, List.getElem?_cons_succ]
          repeat (first | (refine t_skip rfl ?_; (simp only [Act.put, List.setIfInBounds_toArray, List.set_cons_zero, List.set_cons_succ])) | (refine t_run ?_ rfl (fun w1 hw1 => ?_) ?_; rotate_left; (have r0 := HQ.out.1; have r1 := HQ.out.2.1; have r2 := HQ.out.2.2.1; have r3 := HQ.out.2.2.2.1; have r4 := HQ.out.2.2.2.2.1; have r5 := HQ.out.2.2.2.2.2.1; have r6 := HQ.out.2.2.2.2.2.2.1; have r7 := HQ.out.2.2.2.2.2.2.2; have r8 := (hw1.cell (p := ⟨g1, o1 + j, none⟩) hg10).trans hc00; have r9 := (hw1.cell (p := ⟨g2, o2 + j, none⟩) hg20).trans hcx0; go_simp; try (with_reducible rfl)); (simp only [Act.put, List.setIfInBounds_toArray, List.set_cons_zero, List.set_cons_succ])))
          refine t_fresh ?_ ?_ (fun v w' => FreshOw w.heap.size e.n e.bs v w') (by rfl) (fun w1 hw1 => ?_) (fun v w w' h hb => h.keep hb) (fun w1 hw1 => ?_) ?_
          rotate_left 2
          (go_simp; refine ⟨?_, ?_⟩ <;> with_reducible rfl)
          (go_at_call 10; (with_reducible refine (plain_c e.a e.n e.c e.bs w1 (hrb0.keep hw1) HNIL.out hcap).mono ?_); rintro e w2 ⟨A8, c8, rfl, hown8, hb8⟩; exact ⟨_, rfl, ⟨A8, c8, rfl, own_mono hown8 (Nat.le_trans hbb0.size hw1.size)⟩, hb8⟩)
          rintro v8 ⟨-, -, A8, c8, rfl, -⟩
          (simp only [Act.put, List.setIfInBounds_toArray, List.set_cons_zero, List.set_cons_succ])
          repeat (first | (refine t_skip rfl ?_; (simp only [Act.put, List.setIfInBounds_toArray, List.set_cons_zero, List.set_cons_succ])) | (refine t_run ?_ rfl (fun w1 hw1 => ?_) ?_; rotate_left; (go_simp; try (with_reducible rfl)); (simp only [Act.put, List.setIfInBounds_toArray, List.set_cons_zero, List.set_cons_succ])))
          refine t_new (fun v w' => LitRow w.heap.size 32 3 1 [.slice A8 e.n c8, .string ⟨#[]⟩, .int .i64 y] v w') (by rfl) (fun v w w' h hb => h.keep hb) (fun w1 hw1 => ?_) ?_
          refine ⟨?_, ?_, ?_, ?_, ?_⟩
          rotate_left 2
          (go_simp; first | (refine ⟨?_, ?_⟩ <;> with_reducible rfl) | with_reducible rfl)
          exact ⟨_, rfl, own_lit w1 #[.slice A8 e.n c8, .string ⟨#[]⟩, .int .i64 y] _ 3 1 _ (Nat.le_trans hbb0.size hw1.1.size) rfl (by omega)⟩
          exact (Below.refl _ _).alloc (Nat.le_refl _) _
          rintro v9 ⟨-, -, g9, rfl, -⟩
          (simp only [Act.put, List.setIfInBounds_toArray, List.set_cons_zero, List.set_cons_succ])
          intro w7 ⟨⟨hw7, hf7⟩, hl7⟩
          simp only [List.drop_succ_cons, List.drop_zero]
          obtain ⟨g', hg1', hg2', hg3'⟩ := own_some hl7.own (by omega)
          injection hg1' with hg1'
          injection hg1' with hg1'
          subst hg1'
          have hO0 := own_below HO.out hb0
          have hO7 := own_below hO0 hw7
          have hI0 := HI.out.below hb0
          have hP7 := hf7.own
          have hs7 : w.heap.size ≤ w7.heap.size := Nat.le_trans hbb0.size hw7.size
          have HO7 := Lib.hid hO7
          have HP7 := Lib.hid hP7
          have HI0 := Lib.hid hI0
          have HO0 := Lib.hid hO0
          have HC := Lib.hid hg3'
          clear hO7 hP7 hI0 hO0 hg3' hf7 hl7 HI HO
          go_wp2_with (at_builtin; refine wpList_append_own _ rfl _ _ 24 rfl w.heap.size 32 i0 (.agg #[.slice none 0 0, .string ⟨#[]⟩, .int .i64 0]) 3 48 Tryz.underlying24 hi hz0 hz1 hz2 rfl (by decide) _ _ _ rfl HO7.out ⟨g9, 0, none⟩ _ _ [.slice A8 e.n c8, .string ⟨#[]⟩, .int .i64 y] rfl rfl (fun j u hj => by rw [add_zero_off, Nat.zero_add]; exact HC.out j u hj) (by intro u hu; simp at hu; rcases hu with rfl | rfl | rfl <;> rfl) (by unfold maxLen; omega) (by omega) hs7 ?_)
          intro v3 w3 hown2 hgrow _
          obtain ⟨hE3, hb3⟩ := pf_push (k := y) hbb0 HO0.out HI0.out HP7.out hw7 hgrow
          have he3 : w3.ownsRow w.heap.size 32 3 v3 (es' ++ [(⟨A8, e.n, c8, e.bs, y⟩ : Pf)]).length (pfCells (es' ++ [(⟨A8, e.n, c8, e.bs, y⟩ : Pf)])) := by rw [pfCells_append, List.length_append]; exact hown2
          have hm3 : (es' ++ [(⟨A8, e.n, c8, e.bs, y⟩ : Pf)]).map Pf.is = madeZ (zl.take (j + 1)) := by
            rw [HMT.out, if_pos hisl, List.map_append, HM.out, hel, hy]
            rfl
          have hl3 : (es' ++ [(⟨A8, e.n, c8, e.bs, y⟩ : Pf)]).length ≤ j + 1 := by rw [List.length_append]; simp; omega
          generalize es' ++ [(⟨A8, e.n, c8, e.bs, y⟩ : Pf)] = es3 at hE3 he3 hm3 hl3
          have G1 := Lib.hid hE3
          have G2 := Lib.hid he3
          have G3 := Lib.hid hm3
          clear hE3 he3 hm3 hown2 hgrow HO7 HP7 HI0 HO0 HC
          go_wp2
          go_roundw
          case rel => exact ⟨j + 1, es3, by omega, by go_num, G2.out, hl3, G3.out, G1.out, hb3⟩
          case measure => simp [intOf]; omega
        · rw [show (e.n == 4 || e.n == 16) = false by simpa using hla]
          have hnl : ¬ isLen e.bs.length := by rw [hel]; simpa [isLen] using hla
          have hm3 : es'.map Pf.is = madeZ (zl.take (j + 1)) := by rw [HMT.out, if_neg hnl, List.append_nil]; exact HM.out
          have G1 := Lib.hid (HI.out.below hb0)
          have G2 := Lib.hid (own_below HO.out hb0)
          have G3 := Lib.hid hm3
          clear hm3 HI HO
          go_wp2_with fail
          go_roundw
          case rel => exact ⟨j + 1, es', by omega, by go_num, G2.out, by omega, G3.out, G1.out, hbb0⟩
          case measure => simp [intOf]; omega
      · have hjn : j = m := by omega
        subst hjn
        have hm3 := HM.out
        rw [List.take_of_length_le (by rw [hzl]; omega)] at hm3
        obtain ⟨A', c', rfl⟩ := own_slice HO.out
        have G3 := Lib.hid hm3
        clear hm3
        go_wp2
        go_returns
        exact ⟨_, rfl, ⟨A', c', es', rfl, HO.out, G3.out, HI.out⟩, hbb⟩
  · have hmi : min n m = n := by omega
    go_wp2_with fail
    go_loopw [5, 12] (fun v i wr => ∃ (j : Nat) (es' : List Pf), j ≤ n ∧ i = .int .i64 j ∧ wr.ownsRow w.heap.size 32 3 v es'.length (pfCells es') ∧ es'.length ≤ j ∧ es'.map Pf.is = madeZ (zl.take j) ∧ ownPf wr w.heap.size es' ∧ Below w.heap.size w wr) (fun _ i _ => n - (intOf i).toNat)
    case atStart => exact ⟨0, [], Nat.zero_le _, rfl, World.ownsRow_nil _ _ _ _, Nat.le_refl _, rfl, fun e he => (by simp at he), Below.refl _ _⟩
    case round =>
      obtain ⟨j, es', hj, rfl, hown, hlen, hmap, hin, hbb⟩ := hrel
      have HM := Lib.hid hmap
      have HI := Lib.hid hin
      have HO := Lib.hid hown
      clear hmap hin hown
      by_cases hlt : j < n
      · obtain ⟨g1, o1, e, hA, hg1, hek, hc0, hb, hnil, hcap⟩ := (hl.keep hbb).at (i := j) (by omega)
        subst hA
        obtain ⟨g2, o2, hB, hg2, hc2⟩ := (hx.keep hbb).2 (by omega)
        subst hB
        have hcx := hc2 j (by omega)
        have hzj : zl[j]? = some (e.bs, xs.getD j 0) := by
          rw [HZ.out, List.getElem?_zip_eq_some]
          have hxl : j < xs.length := by rw [hx.1]; omega
          exact ⟨by rw [List.getElem?_map, hek]; rfl, by simp [List.getD, hxl]⟩
        have hmt := madeZ_take zl j _ hzj
        simp only at hmt
        have HMT := Lib.hid hmt
        have hel := hb.1
        have hx256 : (xs.getD j 0).toNat < 256 := (xs.getD j 0).toBitVec.isLt
        generalize (xs.getD j 0).toNat = x at *
        have HNIL := Lib.hid hnil
        clear hek hzj hc2 hmt hnil
        go_wp2_with fail
        refine (isAddress_c e.a e.n e.c wr).mono ?_
        rintro e1 w0 ⟨rfl, hb0⟩
        have hbb0 := hbb.trans (hb0.mono hbb.size)
        by_cases hla : (e.n == 4 || e.n == 16) = true
        · rw [hla]
          have hisl : isLen e.bs.length := by rw [hel]; simpa [isLen] using hla
          have q0 : (0 : Int) ≤ j ∧ (j : Int) < n := by omega
          have q1 : (0 : Int) ≤ j ∧ (j : Int) < m := by omega
          have q2 : IntKind.i64.wrap (8 * (e.n : Int)) = 8 * (e.n : Int) := by rw [IntKind.wrap_i64]; omega
          have q3 : IntKind.i64.wrap (8 * (e.n : Int) + 1) = 8 * (e.n : Int) + 1 := by rw [IntKind.wrap_i64]; omega
          have q4 : (x : Int).tmod (8 * (e.n : Int) + 1) = ((x % (8 * e.n + 1) : Nat) : Int) := by rw [Int.tmod_eq_emod_of_nonneg (by omega)]; push_cast; rfl
          have q5 : IntKind.i64.wrap ((x % (8 * e.n + 1) : Nat) : Int) = ((x % (8 * e.n + 1) : Nat) : Int) := by rw [IntKind.wrap_i64]; have := Nat.mod_lt x (show 0 < 8 * e.n + 1 by omega); omega
          have q6 : ¬ 8 * (e.n : Int) + 1 = 0 := by omega
          have q7 : IntKind.i64.wrap (x : Int) = x := by rw [IntKind.wrap_i64]; omega
          have HQ := Lib.hid (And.intro q0 (And.intro q1 (And.intro q2 (And.intro q3 (And.intro q4 (And.intro q5 (And.intro q6 q7)))))))
          clear q0 q1 q2 q3 q4 q5 q6 q7
          generalize hy : x % (8 * e.n + 1) = y at *
          have hdr : Below w0.heap.size w0 w0.drew := ⟨rfl, rfl, rfl, Nat.le_refl _, fun _ _ => rfl⟩
          have hcx0 := (hb0.cell (p := ⟨g2, o2 + j, none⟩) hg2).trans hcx
          have hc00 := (hb0.cell (p := ⟨g1, o1 + j, none⟩) hg1).trans hc0
          have hg10 := Nat.lt_of_lt_of_le hg1 hb0.size
          have hg20 := Nat.lt_of_lt_of_le hg2 hb0.size
          have hrb0 := hb.keep hb0
          clear hcx hc0
          go_wp2_with fail
          refine region_pick (Below w0.heap.size w0) [(0, false, none), (1, false, none), (2, false, none), (3, false, none), (4, false, none), (6, false, none), (7, false, none), (8, false, none), (9, false, none), (10, false, none), (11, false, none), (12, false, none), (13, false, none), (14, false, none), (15, false, none), (16, false, none), (17, false, none), (18, false, none), (5, true, none), (19, false, none), (20, true, none)] 21 (by kernel_rfl) (by kernel_rfl) (fun w w' h hb => h.trans (hb.mono h.size)) (hdr) ?_
          simp only [pickOps, List.getElem?_cons_zero, List.getElem?_cons_succ]
          repeat (first | (refine t_skip rfl ?_; (simp only [Act.put, List.setIfInBounds_toArray, List.set_cons_zero, List.set_cons_succ])) | (refine t_run ?_ rfl (fun w1 hw1 => ?_) ?_; rotate_left; (have r0 := HQ.out.1; have r1 := HQ.out.2.1; have r2 := HQ.out.2.2.1; have r3 := HQ.out.2.2.2.1; have r4 := HQ.out.2.2.2.2.1; have r5 := HQ.out.2.2.2.2.2.1; have r6 := HQ.out.2.2.2.2.2.2.1; have r7 := HQ.out.2.2.2.2.2.2.2; have r8 := (hw1.cell (p := ⟨g1, o1 + j, none⟩) hg10).trans hc00; have r9 := (hw1.cell (p := ⟨g2, o2 + j, none⟩) hg20).trans hcx0; go_simp; try (with_reducible rfl)); (simp only [Act.put, List.setIfInBounds_toArray, List.set_cons_zero, List.set_cons_succ])))
          refine t_fresh ?_ ?_ (fun v w' => FreshOw w.heap.size e.n e.bs v w') (by rfl) (fun w1 hw1 => ?_) (fun v w w' h hb => h.keep hb) (fun w1 hw1 => ?_) ?_
          rotate_left 2
          (go_simp; refine ⟨?_, ?_⟩ <;> with_reducible rfl)
          (go_at_call 10; (with_reducible refine (plain_c e.a e.n e.c e.bs w1 (hrb0.keep hw1) HNIL.out hcap).mono ?_); rintro e w2 ⟨A8, c8, rfl, hown8, hb8⟩; exact ⟨_, rfl, ⟨A8, c8, rfl, own_mono hown8 (Nat.le_trans hbb0.size hw1.size)⟩, hb8⟩)
          rintro v8 ⟨-, -, A8, c8, rfl, -⟩
          (simp only [Act.put, List.setIfInBounds_toArray, List.set_cons_zero, List.set_cons_succ])
          repeat (first | (refine t_skip rfl ?_; (simp only [Act.put, List.setIfInBounds_toArray, List.set_cons_zero, List.set_cons_succ])) | (refine t_run ?_ rfl (fun w1 hw1 => ?_) ?_; rotate_left; (go_simp; try (with_reducible rfl)); (simp only [Act.put, List.setIfInBounds_toArray, List.set_cons_zero, List.set_cons_succ])))
          refine t_new (fun v w' => LitRow w.heap.size 32 3 1 [.slice A8 e.n c8, .string ⟨#[]⟩, .int .i64 y] v w') (by rfl) (fun v w w' h hb => h.keep hb) (fun w1 hw1 => ?_) ?_
          refine ⟨?_, ?_, ?_, ?_, ?_⟩
          rotate_left 2
          (go_simp; first | (refine ⟨?_, ?_⟩ <;> with_reducible rfl) | with_reducible rfl)
          exact ⟨_, rfl, own_lit w1 #[.slice A8 e.n c8, .string ⟨#[]⟩, .int .i64 y] _ 3 1 _ (Nat.le_trans hbb0.size hw1.1.size) rfl (by omega)⟩
          exact (Below.refl _ _).alloc (Nat.le_refl _) _
          rintro v9 ⟨-, -, g9, rfl, -⟩
          (simp only [Act.put, List.setIfInBounds_toArray, List.set_cons_zero, List.set_cons_succ])
          intro w7 ⟨⟨hw7, hf7⟩, hl7⟩
          simp only [List.drop_succ_cons, List.drop_zero]
          obtain ⟨g', hg1', hg2', hg3'⟩ := own_some hl7.own (by omega)
          injection hg1' with hg1'
          injection hg1' with hg1'
          subst hg1'
          have hO0 := own_below HO.out hb0
          have hO7 := own_below hO0 hw7
          have hI0 := HI.out.below hb0
          have hP7 := hf7.own
          have hs7 : w.heap.size ≤ w7.heap.size := Nat.le_trans hbb0.size hw7.size
          have HO7 := Lib.hid hO7
          have HP7 := Lib.hid hP7
          have HI0 := Lib.hid hI0
          have HO0 := Lib.hid hO0
          have HC := Lib.hid hg3'
          clear hO7 hP7 hI0 hO0 hg3' hf7 hl7 HI HO
          go_wp2_with (at_builtin; refine wpList_append_own _ rfl _ _ 24 rfl w.heap.size 32 i0 (.agg #[.slice none 0 0, .string ⟨#[]⟩, .int .i64 0]) 3 48 Tryz.underlying24 hi hz0 hz1 hz2 rfl (by decide) _ _ _ rfl HO7.out ⟨g9, 0, none⟩ _ _ [.slice A8 e.n c8, .string ⟨#[]⟩, .int .i64 y] rfl rfl (fun j u hj => by rw [add_zero_off, Nat.zero_add]; exact HC.out j u hj) (by intro u hu; simp at hu; rcases hu with rfl | rfl | rfl <;> rfl) (by unfold maxLen; omega) (by omega) hs7 ?_)
          intro v3 w3 hown2 hgrow _
          obtain ⟨hE3, hb3⟩ := pf_push (k := y) hbb0 HO0.out HI0.out HP7.out hw7 hgrow
          have he3 : w3.ownsRow w.heap.size 32 3 v3 (es' ++ [(⟨A8, e.n, c8, e.bs, y⟩ : Pf)]).length (pfCells (es' ++ [(⟨A8, e.n, c8, e.bs, y⟩ : Pf)])) := by rw [pfCells_append, List.length_append]; exact hown2
          have hm3 : (es' ++ [(⟨A8, e.n, c8, e.bs, y⟩ : Pf)]).map Pf.is = madeZ (zl.take (j + 1)) := by
            rw [HMT.out, if_pos hisl, List.map_append, HM.out, hel, hy]
            rfl
          have hl3 : (es' ++ [(⟨A8, e.n, c8, e.bs, y⟩ : Pf)]).length ≤ j + 1 := by rw [List.length_append]; simp; omega
          generalize es' ++ [(⟨A8, e.n, c8, e.bs, y⟩ : Pf)] = es3 at hE3 he3 hm3 hl3
          have G1 := Lib.hid hE3
          have G2 := Lib.hid he3
          have G3 := Lib.hid hm3
          clear hE3 he3 hm3 hown2 hgrow HO7 HP7 HI0 HO0 HC
          go_wp2
          go_roundw
          case rel => exact ⟨j + 1, es3, by omega, by go_num, G2.out, hl3, G3.out, G1.out, hb3⟩
          case measure => simp [intOf]; omega
        · rw [show (e.n == 4 || e.n == 16) = false by simpa using hla]
          have hnl : ¬ isLen e.bs.length := by rw [hel]; simpa [isLen] using hla
          have hm3 : es'.map Pf.is = madeZ (zl.take (j + 1)) := by rw [HMT.out, if_neg hnl, List.append_nil]; exact HM.out
          have G1 := Lib.hid (HI.out.below hb0)
          have G2 := Lib.hid (own_below HO.out hb0)
          have G3 := Lib.hid hm3
          clear hm3 HI HO
          go_wp2_with fail
          go_roundw
          case rel => exact ⟨j + 1, es', by omega, by go_num, G2.out, by omega, G3.out, G1.out, hbb0⟩
          case measure => simp [intOf]; omega
      · have hjn : j = n := by omega
        subst hjn
        have hm3 := HM.out
        rw [List.take_of_length_le (by rw [hzl]; omega)] at hm3
        obtain ⟨A', c', rfl⟩ := own_slice HO.out
        have G3 := Lib.hid hm3
        clear hm3
        go_wp2
        go_returns
        exact ⟨_, rfl, ⟨A', c', es', rfl, HO.out, G3.out, HI.out⟩, hbb⟩
end Go.Proofs.YtnoolheinkeocaaGreatDoor
