/-
  Two buffers of bytes of the call's own, that lie apart and grow in turn.
-/
import Derived.Test.YtnoolheinkeocaaGreatDoorBuf2
namespace Go.Proofs.YtnoolheinkeocaaGreatDoor
open Go Go.RowKit
/-- Where a slice lies after an append: where it lay, or in a new block. -/
def Fr (w : World) (v v' : Value) : Prop := ∀ k, v'.ownBlock = some k → v.ownBlock = some k ∨ w.heap.size ≤ k
section
variable {P : Program} {w w' : World} {e : TypeId} {v v' : Value} {n base : Nat} {xs : List Value}
theorem str_where (t u ty : TypeId) (i : TypeInfo) (ht : P.underlying t = some (.slice e)) (hu : P.underlying u = some .string) (hi : P.info? e = some i) (hz : i.zero = some (.int .u8 0)) (hsize : i.size = 1) (hby : i.bytes = 1)
    (hown : w.ownsRow base e 1 v n xs) (s : ByteArray) (h63 : n + s.size ≤ maxLen) (hbytes : n + s.size ≤ 140737488355328) (hr : (Builtin.append_ #[t, u] ty #[v, .string s]).run P w = .ok v' w') : Fr w v v' := by
  intro k hk
  have hxl : xs.length = n := by simpa using hown.1
  rcases hown.2 with ⟨rfl, rfl⟩ | ⟨g, cap, cur, rfl, hbg, hg, hnc, hcm, hcs, htake⟩
  · obtain ⟨v2, w2, h1, h2, -, -⟩ := Lib.run_append_own_string (P := P) w w.heap.size t u ty e i ht hu hi hz hsize hby (.slice none 0 0) 0 xs ⟨hown.1, .inl ⟨rfl, rfl⟩⟩ s h63 hbytes (Nat.le_refl _)
    rw [h1] at hr
    injection hr with e1 e2
    subst e1 e2
    exact .inr (h2.lt k hk).1
  · have hsmall : n + s.size ≤ 9223372036854775807 := by simp only [maxLen] at h63; omega
    by_cases hroom : n + s.size ≤ cap
    · have hcs' : cur.size = cap := by simpa using hcs
      have h1 := Lib.run_append_room_string (P := P) w t u ty e i ht hu hi hsize g n cap cur hg s hroom (by omega)
      rw [h1] at hr
      injection hr with e1 e2
      subst e1
      exact .inl hk
    · have holds : ∀ j u, xs[j]? = some u → w.cell? ((⟨g, 0, none⟩ : Addr).add j) = some u := hown.cells (g := g) rfl
      have h1 := Lib.run_append_grow_string (P := P) w t u ty e i (.int .u8 0) ht hu hi hz ⟨g, 0, none⟩ n cap xs (by rw [hsize]; simpa using hxl) holds s (by omega) (by omega) (by rw [hby]; exact growslice_fits (by omega) (by omega))
      rw [h1] at hr
      injection hr with e1 e2
      subst e1
      simp only [Value.ownBlock, Option.some.injEq] at hk
      exact .inr (by omega)
theorem sl_where (t ty : TypeId) (i : TypeInfo) (z : Value) (size bytes : Nat) (ht : P.underlying t = some (.slice e)) (hi : P.info? e = some i) (hz : i.zero = some z)
    (hsize : i.size = size) (hby : i.bytes = bytes) (hzs : z.cells.size = size) (hsz : 0 < size) (hown : w.ownsRow base e size v n xs)
    (a : Addr) (m c : Nat) (news : List Value) (hl : news.length = m * size) (hnews : ∀ j u, news[j]? = some u → w.cell? (a.add j) = some u) (h1 : ∀ u ∈ news, u.oneCell' = true)
    (h63 : n + m ≤ maxLen) (hbytes : (n + m) * bytes ≤ 140737488355328) (hr : (Builtin.append_ #[t, t] ty #[v, .slice (some a) m c]).run P w = .ok v' w') : Fr w v v' := by
  intro k hk
  rcases hown.2 with ⟨rfl, rfl⟩ | ⟨g, cap, cur, rfl, hbg, hg, hnc, hcm, hcs, htake⟩
  · obtain ⟨v2, w2, h3, h2, -, -⟩ := run_append_own (P := P) w w.heap.size t ty e i z size bytes ht hi hz hsize hby hzs hsz (.slice none 0 0) 0 xs ⟨hown.1, .inl ⟨rfl, rfl⟩⟩ a m c news hl hnews h1 h63 hbytes (Nat.le_refl _)
    rw [h3] at hr
    injection hr with e1 e2
    subst e1 e2
    exact .inr (h2.lt k hk).1
  · subst hsize hby
    have hsm : n + m ≤ 9223372036854775807 := by simp only [maxLen] at h63; omega
    by_cases hroom : n + m ≤ cap
    · have hfit : n * i.size + news.length ≤ cur.size := by rw [hl, hcs, ← Nat.add_mul]; exact Nat.mul_le_mul_right _ hroom
      have h2 := run_append_room (P := P) w t ty e i ht hi g n cap cur hg a m c news hl hnews h1 hroom hfit
      rw [h2] at hr
      injection hr with e1 e2
      subst e1
      exact .inl hk
    · have holds : ∀ j u, xs[j]? = some u → w.cell? ((⟨g, 0, none⟩ : Addr).add j) = some u := hown.cells (g := g) rfl
      have h2 := run_append_grow (P := P) w t ty e i z ht hi hz ⟨g, 0, none⟩ n cap xs hown.1 holds a m c news hl hnews (by omega) (by omega) (growslice_fits (by omega) hbytes)
      rw [h2] at hr
      injection hr with e1 e2
      subst e1
      simp only [Value.ownBlock, Option.some.injEq] at hk
      exact .inr (by omega)
end
/-- Two own rows of bytes, apart. -/
structure Two (B : Nat) (w : World) (v1 : Value) (l1 : List UInt8) (v2 : Value) (l2 : List UInt8) : Prop where
  one : w.ownsRow B 5 1 v1 l1.length (Lib.byteCells l1)
  two : w.ownsRow B 5 1 v2 l2.length (Lib.byteCells l2)
  apart : v1.ownBlock = none ∨ v1.ownBlock ≠ v2.ownBlock
  base : B ≤ w.heap.size
section
variable {B : Nat} {w w' : World} {v1 v2 v' : Value} {l1 l2 l' : List UInt8}
theorem Two.symm (h : Two B w v1 l1 v2 l2) : Two B w v2 l2 v1 l1 := by
  refine ⟨h.two, h.one, ?_, h.base⟩
  rcases h.apart with h1 | h1
  · cases h2 : v2.ownBlock with
    | none => exact .inl rfl
    | some k => right; rw [h1]; simp
  · exact .inr (Ne.symm h1)
theorem Two.below (h : Two B w v1 l1 v2 l2) (hb : Below w.heap.size w w') : Two B w' v1 l1 v2 l2 := ⟨own_below h.one hb, own_below h.two hb, h.apart, Nat.le_trans h.base hb.size⟩
theorem Two.grown (h : Two B w v1 l1 v2 l2) (ho : w'.ownsRow B 5 1 v' l'.length (Lib.byteCells l')) (hg : w.grownBy w' v1.ownBlock) (hf : Fr w v1 v') : Two B w' v' l' v2 l2 := by
  refine ⟨ho, h.two.kept hg h.symm.apart, ?_, Nat.le_trans h.base hg.size⟩
  cases hk : v'.ownBlock with
  | none => exact .inl rfl
  | some k =>
    right
    intro e
    rcases hf k hk with h1 | h1
    · rcases h.apart with h2 | h2
      · rw [h1] at h2; cases h2
      · exact h2 (h1.trans e)
    · have := (h.two.lt k e.symm).2
      omega
theorem Two.start (w : World) (B : Nat) (hB : B ≤ w.heap.size) (h : w.ownsRow B 5 1 v1 l1.length (Lib.byteCells l1)) : Two B w v1 l1 (.slice none 0 0) [] :=
  ⟨h, World.ownsRow_nil _ _ _ _, by cases hk : v1.ownBlock <;> simp [Value.ownBlock], hB⟩
theorem Two.low (h : Two B w v1 l1 v2 l2) (hg : w.grownBy w' v1.ownBlock) {W0 : World} (hb : Below B W0 w) : Below B W0 w' := hb.grown hg h.base (own_row_ge h.one)
variable {ops : Array Oper} {rest : List Oper} {o : Oper} {a : Act} {Q : Exit → Act → World → Prop}
/-- append(b, s...) at the first of the two. -/
theorem app_str1 (i : TypeInfo) (hi : Tryz.prog.info? 5 = some i) (hz : i.zero = some (.int .u8 0)) (hsize : i.size = 1) (hby : i.bytes = 1) (hgd : o.guard = none) (s x : Operand)
    (ho : o.op = .call { callee := .builtin .append, args := #[s, x], argTypes := #[23, 9] }) (hs : a.eval s = v1) (t : ByteArray) (hT : Two B w v1 l1 v2 l2)
    (hx : a.eval x = .string t) (hlen : l1.length + t.size ≤ 140737488355328)
    (h : ∀ v' w', Two B w' v' (l1 ++ t.data.toList) v2 l2 → w.grownBy w' v1.ownBlock → wpList Tryz.prog ops Q rest (a.put o.dst v') w') : wpList Tryz.prog ops Q (o :: rest) a w := by
  refine wpList_plain hgd fun K hK => ?_
  obtain ⟨v', w', hr, h2, h3, h4⟩ := Lib.run_append_own_string (P := Tryz.prog) w B 23 9 o.type 5 i Tryz.underlying23 Tryz.underlying9 hi hz hsize hby v1 _ _ hT.one t (by unfold maxLen; omega) hlen hT.base
  have hf := str_where 23 9 o.type i Tryz.underlying23 Tryz.underlying9 hi hz hsize hby hT.one t (by unfold maxLen; omega) hlen hr
  unfold Oper.wp execOp
  simp only [ho, resolve, invoke, builtin, Sem.run_bind, Sem.run_pure, Result.andThen_ok, List.map_toArray, List.map_cons, List.map_nil, hs, hx, hr]
  refine hK _ _ (h v' w' (hT.grown ?_ h3 hf) h3)
  rw [List.length_append, show Lib.byteCells (l1 ++ t.data.toList) = Lib.byteCells l1 ++ Lib.strCells t by simp [Lib.byteCells, Lib.strCells], Array.length_toList]
  exact h2
/-- append(b, c) at the first of the two; c lies in the block that was laid last. -/
theorem app_byte1 (i : TypeInfo) (hi : Tryz.prog.info? 5 = some i) (hz : i.zero = some (.int .u8 0)) (hsize : i.size = 1) (hby : i.bytes = 1) (hgd : o.guard = none) (s x : Operand)
    (ho : o.op = .call { callee := .builtin .append, args := #[s, x], argTypes := #[23, 23] }) (hs : a.eval s = v1) (c : UInt8) (z : Int) (hcz : z = (c.toNat : Int)) (hT : Two B w v1 l1 v2 l2)
    (hx : a.eval x = .slice (some ⟨w.heap.size, 0, none⟩) 1 1) (hlen : l1.length + 1 ≤ 140737488355328)
    (h : ∀ v' w', Two B w' v' (l1 ++ [c]) v2 l2 → (w.alloc (.cells #[.int .u8 z] 5)).grownBy w' v1.ownBlock → wpList Tryz.prog ops Q rest (a.put o.dst v') w') : wpList Tryz.prog ops Q (o :: rest) a (w.alloc (.cells #[.int .u8 z] 5)) := by
  subst hcz
  refine wpList_plain hgd fun K hK => ?_
  have hT' := hT.below ((Below.refl _ _).alloc (Nat.le_refl _) (.cells #[.int .u8 (c.toNat : Int)] 5))
  have hn : ∀ (j : Nat) (u : Value), [Value.int .u8 (c.toNat : Int)][j]? = some u → (w.alloc (.cells #[.int .u8 (c.toNat : Int)] 5)).cell? ((⟨w.heap.size, 0, none⟩ : Addr).add j) = some u := fun j u hj => by
    match j, hj with
    | 0, hj => simp at hj; subst hj; simp [Addr.add]
    | (j + 1), hj => simp at hj
  have h1c : ∀ u ∈ [Value.int .u8 (c.toNat : Int)], u.oneCell' = true := fun u hu => by simp at hu; subst hu; rfl
  obtain ⟨v', w', hr, h2, h3, h4⟩ := run_append_own (P := Tryz.prog) _ B 23 o.type 5 i (.int .u8 0) 1 1 Tryz.underlying23 hi hz hsize hby rfl (by decide) v1 _ _ hT'.one ⟨w.heap.size, 0, none⟩ 1 1 [.int .u8 (c.toNat : Int)] rfl hn h1c (by unfold maxLen; omega) (by omega) hT'.base
  have hf := sl_where 23 o.type i (.int .u8 0) 1 1 Tryz.underlying23 hi hz hsize hby rfl (by decide) hT'.one ⟨w.heap.size, 0, none⟩ 1 1 [.int .u8 (c.toNat : Int)] rfl hn h1c (by unfold maxLen; omega) (by omega) hr
  unfold Oper.wp execOp
  simp only [ho, resolve, invoke, builtin, Sem.run_bind, Sem.run_pure, Result.andThen_ok, List.map_toArray, List.map_cons, List.map_nil, hs, hx, hr]
  refine hK _ _ (h v' w' (hT'.grown ?_ h3 hf) h3)
  rw [← bytes_snoc, List.length_append]
  exact h2
set_option maxRecDepth 100000 in
/-- append([]byte(nil), b...), an own row. -/
theorem app_copyO {l : List UInt8} {W0 : World} (i : TypeInfo) (hi : Tryz.prog.info? 5 = some i) (hz : i.zero = some (.int .u8 0)) (hsize : i.size = 1) (hby : i.bytes = 1) (hgd : o.guard = none) (s x : Operand)
    (ho : o.op = .call { callee := .builtin .append, args := #[s, x], argTypes := #[23, 23] }) (hs : a.eval s = .slice none 0 0) (A : Option Addr) (n c : Nat) (hr : RB w A n l) (hA : A = none → n = 0 ∧ c = 0) (hn : n ≤ 140737488355328)
    (hx : a.eval x = .slice A n c) (hB : B ≤ w.heap.size) (hl : Below B W0 w)
    (h : ∀ v' w', w'.ownsRow B 5 1 v' l.length (Lib.byteCells l) → Below B W0 w' → wpList Tryz.prog ops Q rest (a.put o.dst v') w') : wpList Tryz.prog ops Q (o :: rest) a w := by
  have hlen := hr.1
  have hbl := byteCells_len l
  rcases A with _ | a0
  · obtain ⟨rfl, rfl⟩ := hA rfl
    obtain rfl : l = [] := List.eq_nil_of_length_eq_zero hlen
    exact wpList_append_own_none hgd s x 23 ho B 5 i 1 Tryz.underlying23 hi (.slice none 0 0) 0 [] hs (World.ownsRow_nil _ _ _ _) hx (h _ _ (World.ownsRow_nil _ _ _ _) hl)
  · refine wpList_append_own w hgd s x 23 ho B 5 i (.int .u8 0) 1 1 Tryz.underlying23 hi hz hsize hby rfl (by decide) (.slice none 0 0) 0 [] hs (World.ownsRow_nil _ _ _ _) a0 n c (Lib.byteCells l) hx (by omega) ?_ ?_ (by unfold maxLen; omega) (by omega) hB ?_
    · intro j u hj
      have hj' : j < l.length := by have := (List.getElem?_eq_some_iff.1 hj).1; omega
      obtain ⟨g, o, e, hg, hc⟩ := hr.2 (by omega)
      injection e with e
      subst e
      rw [byteCells_get l j hj'] at hj
      injection hj with hj
      subst hj
      have ha : (⟨g, o, none⟩ : Addr).add j = ⟨g, o + j, none⟩ := by unfold Addr.add; split <;> simp_all
      rw [ha]
      exact hc j (by omega)
    · intro u hu; simp [Lib.byteCells] at hu; obtain ⟨b, _, rfl⟩ := hu; rfl
    · intro v' w' ho' hg _
      refine h v' w' ?_ (hl.grown hg hB (own_row_ge (World.ownsRow_nil w B 5 1)))
      rw [hlen]; rw [Nat.zero_add, List.nil_append] at ho'; exact ho'
end
/-- string(b[a:b]) of bytes that can be read. -/
theorem sub_str {w : World} {g o n : Nat} {l : List UInt8} (h : RB w (some ⟨g, o, none⟩) n l) (a m c : Nat) (ham : a + m ≤ n) :
    (convert 23 9 (.slice (some ⟨g, o + a, none⟩) m c)).run Tryz.prog w = .ok (.string ⟨((l.drop a).take m).toArray⟩) w := by
  have hln := h.1
  have hm : ((l.drop a).take m).length = m := by simp; omega
  have := run_convert_bytes_back (P := Tryz.prog) w 23 9 5 ⟨g, o + a, none⟩ c ((l.drop a).take m) Tryz.underlying23 Tryz.underlying5 Tryz.underlying9 (fun j hj => by
    rw [hm] at hj
    obtain ⟨g', o', e, -, hc⟩ := h.2 (by omega)
    injection e with e
    injection e with e1 e2
    subst e1 e2
    have h1 := hc (a + j) (by omega)
    have ha : (⟨g, o + a, none⟩ : Addr).add j = ⟨g, o + (a + j), none⟩ := by unfold Addr.add; split <;> simp_all; try omega
    rw [ha, h1]
    have hj2 : a + j < l.length := by omega
    simp [List.getD, hj2, List.getElem_take, List.getElem_drop])
  rw [hm] at this
  exact this
end Go.Proofs.YtnoolheinkeocaaGreatDoor
