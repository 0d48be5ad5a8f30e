/-
  The walk of laws.FnLeftOut.
-/
import Derived.Test.YtckfgdohpmllmaaDoorLeft
namespace Go.Proofs.YtckfgdohpmllmaaDoor
open Go Go.RowKit
/-- One address and one number, in literals. -/
theorem one_made {w : World} (A : Option Addr) (n c : Nat) (bs : List UInt8) (x : UInt8) (hr : RB w A n bs) (hA : A = none → n = 0 ∧ c = 0) (hn : n ≤ 140737488355328) :
    RS ((w.alloc (.cells #[.slice A n c] 22)).alloc (.cells #[.int .u8 x.toNat] 5)) (some ⟨w.heap.size, 0, none⟩) 1 [⟨A, n, c, bs⟩] ∧ RB ((w.alloc (.cells #[.slice A n c] 22)).alloc (.cells #[.int .u8 x.toNat] 5)) (some ⟨w.heap.size + 1, 0, none⟩) 1 [x] ∧ Below w.heap.size w ((w.alloc (.cells #[.slice A n c] 22)).alloc (.cells #[.int .u8 x.toNat] 5)) := by
  have hbx := boxes2 (x0 := #[.slice A n c]) (x1 := #[.int .u8 x.toNat]) w 22 5
  refine ⟨⟨rfl, fun _ => ⟨_, _, rfl, by simp; omega, fun i u hi => ?_⟩, fun e he => ?_⟩, ⟨rfl, fun _ => ⟨_, _, rfl, by simp, fun i hi => ?_⟩⟩, hbx.below⟩
  · rw [hbx.b0]
    match i, hi with
    | 0, hi => simpa using hi
  · simp at he; subst he; exact ⟨hr.keep hbx.below, hA, hn⟩
  · rw [hbx.b1]
    match i, hi with
    | 0, hi => rfl
theorem madeZ_one (A : Option Addr) (n c : Nat) (bs : List UInt8) (x : UInt8) : madeZ ((([⟨A, n, c, bs⟩] : List En).map (·.bs)).zip [x]) = if isLen bs.length then [(bs, x.toNat % (8 * bs.length + 1))] else [] := by
  have := madeZ_take [(bs, x)] 0 (bs, x) rfl
  simpa [madeZ] using this
/-- What holds while the part is cut. -/
structure LeftInv (a : List UInt8) (k0 dep r : Nat) (q : Pf) (es : List Pf) : Prop where
  kr : q.k + r = k0 + dep
  lb : q.bs.length = a.length
  ln : q.n = a.length
  le : es.length + r = dep
  vp : ∀ y ∈ es, Vp y.is
  sum : ∀ x, (if inP a k0 x then 1 else 0) = manyIn (es.map Pf.is) x + if inP q.bs q.k x then 1 else 0
  top : Lib.beNat q.bs / 2 ^ (8 * a.length - k0) = Lib.beNat a / 2 ^ (8 * a.length - k0)
theorem LeftInv.step {a : List UInt8} {k0 dep r : Nat} {q : Pf} {es : List Pf} (h : LeftInv a k0 dep (r + 1) q es) (hd : k0 + dep ≤ 8 * a.length) (hl : isLen a.length) (u : Bool) (A1 A2 : Option Addr) (c1 c2 : Nat) :
    LeftInv a k0 dep r ⟨A2, a.length, c2, halfB q.bs q.k u, q.k + 1⟩ (es ++ [⟨A1, a.length, c1, halfB q.bs q.k (!u), q.k + 1⟩]) := by
  have hkr := h.kr
  have hle := h.le
  have hlt : q.k < 8 * q.bs.length := by rw [h.lb]; omega
  refine ⟨by show q.k + 1 + r = _; omega, by show (halfB q.bs q.k u).length = _; rw [halfB_len, h.lb], rfl, by rw [List.length_append]; simp; omega, fun y hy => ?_, fun x => ?_, ?_⟩
  · rcases List.mem_append.1 hy with hy | hy
    · exact h.vp y hy
    · simp at hy; subst hy
      exact ⟨by show isLen (halfB q.bs q.k (!u)).length; rw [halfB_len, h.lb]; exact hl, by show q.k + 1 ≤ 8 * (halfB q.bs q.k (!u)).length; rw [halfB_len]; omega⟩
  · rw [h.sum x, List.map_append, manyIn_append, half_split q.bs q.k u x hlt]
    show _ = manyIn (es.map Pf.is) x + manyIn [(halfB q.bs q.k (!u), q.k + 1)] x + if inP (halfB q.bs q.k u) (q.k + 1) x then 1 else 0
    rw [manyIn_one]
    omega
  · show Lib.beNat (halfB q.bs q.k u) / _ = _
    rw [← h.top, ← h.lb]
    exact top_le (half_in q.bs q.k u hlt) (by omega)
theorem LeftInv.first {a : List UInt8} {k0 dep r : Nat} {q : Pf} {es : List Pf} (h : LeftInv a k0 dep r q es) (hr : r ≤ dep) : inP a k0 (wb q.bs q.k false) = true := by
  have hkr := h.kr
  unfold inP
  rw [decide_eq_true_eq]
  refine ⟨by rw [wb_len, h.lb], ?_⟩
  rw [← h.top, ← h.lb]
  exact top_le (first_in q.bs q.k) (by omega)
set_option maxRecDepth 100000 in
set_option maxHeartbeats 16000000 in
theorem left_walk (A : Option Addr) (n c : Nat) (bs : List UInt8) (x : UInt8) (T : Option Addr) (tn tc : Nat) (ts : List UInt8) (y : UInt8) (R : Option Addr) (rn rc : Nat) (rs : List UInt8) (z : ZP) (w : World) (hz : Zs w z)
    (hr : RB w A n bs) (hA : A = none → n = 0 ∧ c = 0) (hn : n ≤ 140737488355328) (ht : RB w T tn ts) (hp : RB w R rn rs) (hR : R = none → rn = 0 ∧ rc = 0) (hrn : rn ≤ 140737488355328) :
    Calls Tryd.prog 3 #[.slice A n c, .int .u8 x.toNat, .slice T tn tc, .int .u8 y.toNat, .slice R rn rc] w (TrueW w) := by
  obtain ⟨i0, hi, hz0, hz1, hz2⟩ := info_parts infoPf
  obtain ⟨m1, m2, m3⟩ := one_made A n c bs x hr hA hn
  have hlen := hr.1
  have htl := ht.1
  have hpl := hp.1
  have hmz := madeZ_one A n c bs x
  go_enter Tryd.func3, Tryd.ntmps3
  go_wp2_with fail
  refine (made_c _ 1 _ _ _ 1 _ [x] _ m1 (by omega) m2 (by omega)).mono ?_
  rintro e0 w1 ⟨v1, rfl, ⟨A1, c1, es, rfl, hown, hmap, hin⟩, hb1'⟩
  have hb1 := m3.trans (hb1'.mono m3.size)
  rw [hmz] at hmap
  clear hb1' hmz m1 m2
  by_cases hl : isLen bs.length
  · rw [if_pos hl] at hmap
    obtain ⟨e, rfl⟩ : ∃ e, es = [e] := List.length_eq_one_iff.1 (by have := congrArg List.length hmap; simpa using this)
    simp only [List.map_cons, List.map_nil, List.cons.injEq, and_true] at hmap
    obtain ⟨ea, en, ec, eb, k0⟩ := e
    have hk0 : k0 ≤ 8 * n := by
      have h1 : k0 = x.toNat % (8 * bs.length + 1) := congrArg Prod.snd hmap
      have := Nat.mod_lt x.toNat (show 0 < 8 * bs.length + 1 by omega)
      omega
    obtain rfl : eb = bs := congrArg Prod.fst hmap
    have hO := own_mono hown m3.size
    have hE := own_mono (hin _ (List.mem_singleton.2 rfl)) (Nat.zero_le _)
    obtain rfl : en = n := by have := (RB.of_own hE).1; simp only at this; omega
    obtain ⟨g1, hA1, hg1, hc1⟩ := own_some hO (by simp)
    subst hA1
    have c0 := hc1 0 _ rfl
    have c1' := hc1 1 _ rfl
    have c2 := hc1 2 _ rfl
    simp only at hE c0 c2
    have HE := Lib.hid hE
    have hyd : y.toNat < 256 := y.toBitVec.isLt
    generalize y.toNat = yd at *
    generalize x.toNat = xd at *
    clear hown hmap hin hO hc1 hE
    by_cases htn' : tn = en
    · by_cases hrn' : rn = en
      · have t1 : ((tn : Int) != en) = false := by simp [htn']
        have t2 : ((rn : Int) != en) = false := by simp [hrn']
        have t3 : (tn != en) = false := by simp [htn']
        have t4 : (rn != en) = false := by simp [hrn']
        have hdp : (yd : Int) % (8 * (en : Int) - (k0 : Int) + 1) = ((yd % (8 * en - k0 + 1) : Nat) : Int) := by
          rw [Int.natCast_emod]; congr 1; omega
        have hdl : yd % (8 * en - k0 + 1) < 8 * en - k0 + 1 := Nat.mod_lt _ (by omega)
        have hn16 : 0 < en ∧ en ≤ 16 := by rw [hlen] at hl; unfold isLen at hl; omega
        have HDP := Lib.hid hdp
        clear hdp
        go_wp2_with fail
        rw [HDP.out]
        generalize yd % (8 * en - k0 + 1) = dep at *
        have hE3 : ownPf ((w1.alloc (.cells #[.slice ea en ec, .string ⟨#[]⟩, .int .i64 k0] 29)).alloc (.cells #[.slice ea en ec, .string ⟨#[]⟩, .int .i64 k0] 29)) 0 [⟨ea, en, ec, eb, k0⟩, ⟨ea, en, ec, eb, k0⟩] := fun y hy => by
          have hy' : y = ⟨ea, en, ec, eb, k0⟩ := by simpa using hy
          subst hy'
          exact (HE.out.alloc _).alloc _
        have hls : LS (w1.heap.size + 2) w1.heap.size (w1.heap.size + 1) ⟨ea, en, ec, eb, k0⟩ ⟨ea, en, ec, eb, k0⟩ [] (.slice none 0 0) ((w1.alloc (.cells #[.slice ea en ec, .string ⟨#[]⟩, .int .i64 k0] 29)).alloc (.cells #[.slice ea en ec, .string ⟨#[]⟩, .int .i64 k0] 29)) :=
          ⟨(Below.heap_alloc _ _ _ (by simp)).trans (heap_alloc_new _ _), by have := heap_alloc_new (w1.alloc (.cells #[.slice ea en ec, .string ⟨#[]⟩, .int .i64 k0] 29)) (.cells #[.slice ea en ec, .string ⟨#[]⟩, .int .i64 k0] 29); simpa [Blk] using this, by omega, by omega, by omega, by simp, World.ownsRow_nil _ _ _ _, hE3⟩
        have hb3 : Below w.heap.size w ((w1.alloc (.cells #[.slice ea en ec, .string ⟨#[]⟩, .int .i64 k0] 29)).alloc (.cells #[.slice ea en ec, .string ⟨#[]⟩, .int .i64 k0] 29)) := (hb1.alloc hb1.size _).alloc (by have := hb1.size; simp; omega) _
        have hli : LeftInv eb k0 dep dep ⟨ea, en, ec, eb, k0⟩ [] := ⟨rfl, rfl, hlen.symm, by simp, fun y hy => (by simp at hy), fun x => by simp [manyIn], rfl⟩
        clear hE3 c0 c1' c2
        generalize ((w1.alloc (.cells #[.slice ea en ec, .string ⟨#[]⟩, .int .i64 k0] 29)).alloc (.cells #[.slice ea en ec, .string ⟨#[]⟩, .int .i64 k0] 29)) = w3 at *
        go_loopw [14, 15] (fun v i wr => ∃ (r : Nat) (q : Pf) (es' : List Pf), r ≤ dep ∧ i = .int .i64 r ∧ LS (w1.heap.size + 2) w1.heap.size (w1.heap.size + 1) ⟨ea, en, ec, eb, k0⟩ q es' v wr ∧ LeftInv eb k0 dep r q es' ∧ Below w.heap.size w wr) (fun _ i _ => (intOf i).toNat)
        case atStart => exact ⟨dep, _, [], Nat.le_refl _, rfl, hls, hli, hb3⟩
        case round =>
          clear hls hli
          obtain ⟨r, q, es', hr', rfl, hS, hI, hbb⟩ := hrel
          have HI := Lib.hid hI
          have HS := Lib.hid hS
          have hqk := hI.kr
          have hqn := hI.ln
          have hql := hI.lb
          have hel := hI.le
          have cP := hS.bP.cell
          have cQ := hS.bQ.cell
          have fQ := hS.bQ.free
          clear hI hS
          obtain ⟨qa, qn, qc, qb, qk⟩ := q
          simp only at hqk hqn hql cQ
          obtain rfl : qn = en := by omega
          have HLEN := Lib.hid (And.intro hlen (And.intro hql hqk))
          have hqk2 : qk ≤ 8 * qn ∧ qk + r ≤ 8 * qn := by omega
          clear hqn hlen hql hqk
          by_cases hr0 : 0 < r
          · obtain ⟨r', rfl⟩ : ∃ r', r = r' + 1 := ⟨r - 1, by omega⟩
            have ht' : RB w T qn ts := by rw [← htn']; exact ht
            have hisl : isLen qn := by rw [← HLEN.out.1]; exact hl
            go_wp2_with fail
            refine (hasBit_c T qn tc ts qk wr (ht'.keep hbb) (by omega) (by omega)).mono ?_
            rintro e1 w6 ⟨rfl, hb6⟩
            have hS6 := HS.out.keep hb6
            have hbb6 := hbb.trans (hb6.mono hbb.size)
            obtain ⟨u, hu⟩ : ∃ u, u = bitAt ts qk := ⟨_, rfl⟩
            rw [← hu]
            clear hu cP cQ fQ hb6 HS
            have cQ := hS6.bQ.cell
            simp only at cQ
            have hq6 : RB w6 qa qn qb := RB.of_own (hS6.own ⟨qa, qn, qc, qb, qk⟩ (by simp))
            have HS6 := Lib.hid hS6
            clear hS6
            obtain ⟨k1, hk1⟩ : ∃ k1, k1 = qk + 1 := ⟨_, rfl⟩
            have HK1 := Lib.hid hk1
            clear hk1
            go_wp2_with fail
            refine (half_c qa qn qc qb qk (!u) w6 hq6 hisl (by omega)).mono ?_
            rintro e1 w7 ⟨v7, rfl, ⟨A7, c7, rfl, hown7⟩, hb7⟩
            rw [← HK1.out]
            have hS7 := HS6.out.keep hb7
            have hbb7 := hbb6.trans (hb7.mono hbb6.size)
            have hO7 := own_mono hown7 (Nat.zero_le _)
            have hrow7 := hS7.row
            have hls7 := hS7.le
            have HS7 := Lib.hid hS7
            have HO7 := Lib.hid hO7
            have HR7 := Lib.hid (own_row_ge hrow7)
            clear hS7 hO7 hown7 HS6 hb7 cQ hq6
            have HROW := Lib.hid hrow7
            clear hrow7
            go_wp2_with ((at_builtin; refine append1 rfl _ _ 23 rfl (w1.heap.size + 2) 29 i0 (.agg #[.slice none 0 0, .string ⟨#[]⟩, .int .i64 0]) 3 48 Tryd.underlying23 hi hz0 hz1 hz2 rfl (by decide) _ _ _ rfl (HROW.out) _ _ [.slice A7 qn c7, .string ⟨#[]⟩, .int .i64 k1] rfl (by simp) rfl rfl (by unfold maxLen; omega) (by omega) (by first | omega | (simp; omega)) ?_))
            intro v8 w8 hown8 hgrow
            have hxa : Below w7.heap.size w7 (w7.alloc (.cells #[.slice A7 qn c7, .string ⟨#[]⟩, .int .i64 k1] 29)) := (Below.refl _ _).alloc (Nat.le_refl _) _
            have hS8 := (HS7.out.keep hxa).push ⟨A7, qn, c7, halfB qb qk (!u), k1⟩ (own_below HO7.out hxa) hgrow hown8
            have hbb8 : Below w.heap.size w w8 := (hbb7.trans (hxa.mono hbb7.size)).grown hgrow (Nat.le_trans hbb7.size hxa.size) (fun g hg => by have := HR7.out g hg; have := hb1.size; omega)
            have cQ := hS8.bQ.cell
            have fQ := hS8.bQ.free
            simp only at cQ
            have hq8 : RB w8 qa qn qb := RB.of_own (hS8.own ⟨qa, qn, qc, qb, qk⟩ (by simp))
            have HS8 := Lib.hid hS8
            clear hS8 hown8 hgrow hxa HS7 HO7 HROW HR7
            go_wp2_with fail
            refine (half_c qa qn qc qb qk u w8 hq8 hisl (by omega)).mono ?_
            rintro e1 w9 ⟨v9, rfl, ⟨A9, c9, rfl, hown9⟩, hb9⟩
            rw [← HK1.out]
            have hS9 := HS8.out.keep hb9
            have hbb9 := hbb8.trans (hb9.mono hbb8.size)
            have hS10 := hS9.store ⟨A9, qn, c9, halfB qb qk u, k1⟩ (own_mono hown9 (Nat.zero_le _))
            have hb10 : Below w.heap.size w _ := ((hbb9.setCell (p := ⟨w1.heap.size + 1, 0, none⟩) (by have := hb1.size; simp; omega) (.slice A9 qn c9)).setCell (p := ⟨w1.heap.size + 1, 1, none⟩) (by have := hb1.size; simp; omega) (.string ⟨#[]⟩)).setCell (p := ⟨w1.heap.size + 1, 2, none⟩) (by have := hb1.size; simp; omega) (.int .i64 k1)
            have hstep := HI.out.step (by have := HLEN.out.1; omega) hl u A7 A9 c7 c9
            simp only [HLEN.out.1, ← HK1.out] at hstep
            have cQ9 := hS9.bQ.cell
            have fQ9 := hS9.bQ.free
            have lQ9 := hS9.bQ.lt
            simp only at cQ9
            have HS10 := Lib.hid hS10
            have HB10 := Lib.hid hb10
            have HST := Lib.hid hstep
            clear hS9 hS10 hb10 hstep hown9 HS8 cQ fQ hq8 HI
            go_wp2
            go_roundw
            case rel => exact ⟨r', _, _, by omega, by go_num, HS10.out, HST.out, HB10.out⟩
            case measure => simp [intOf]
          · obtain rfl : r = 0 := by omega
            have hisl : isLen qn := by rw [← HLEN.out.1]; exact hl
            have hp' : RB w R qn rs := by rw [← hrn']; exact hp
            have hR' : R = none → qn = 0 ∧ rc = 0 := by rw [← hrn']; exact hR
            obtain ⟨A14, c14, rfl⟩ := own_slice HS.out.row
            have hrp := HS.out.rp
            have hsum := HI.out.sum rs
            have hfst := HI.out.first hr'
            simp only at hsum hfst
            have hiv : isLen qb.length := by rw [HLEN.out.2.1]; exact hl
            have hqv : qk ≤ 8 * qb.length := by have := HLEN.out.1; have := HLEN.out.2.1; omega
            have hkv : k0 ≤ 8 * eb.length := by have := HLEN.out.1; omega
            have HFST := Lib.hid hfst
            have HSUM := Lib.hid hsum
            clear hsum hfst
            go_wp2_with fail
            refine (howMany_c A14 R es'.length qn c14 rc es' rs z wr (hz.keep hbb) hrp HI.out.vp (by omega) (hp'.keep hbb) hR' (by omega)).mono ?_
            rintro e1 w6 ⟨rfl, hb6⟩
            have hS6 := HS.out.keep hb6
            have hbb6 := hbb.trans (hb6.mono hbb.size)
            clear cP cQ fQ hb6 HS hrp
            have cP6 := hS6.bP.cell
            simp only at cP6
            have he6 : RB w6 ea qn eb := RB.of_own (hS6.own ⟨ea, qn, ec, eb, k0⟩ (by simp))
            have HS6 := Lib.hid hS6
            clear hS6
            generalize manyIn (es'.map Pf.is) rs = M at *
            go_wp2_with fail
            refine (contains_c ea R qn qn ec rc eb rs k0 z w6 (hz.keep hbb6) he6 (hp'.keep hbb6) hR' (by omega) hl hkv).mono ?_
            rintro e1 w7 ⟨rfl, hb7⟩
            have hS7 := HS6.out.keep hb7
            have hbb7 := hbb6.trans (hb7.mono hbb6.size)
            clear cP6 he6 HS6 hb7
            have cQ7 := hS7.bQ.cell
            simp only at cQ7
            have hq7 : RB w7 qa qn qb := RB.of_own (hS7.own ⟨qa, qn, qc, qb, qk⟩ (by simp))
            have HS7 := Lib.hid hS7
            clear hS7
            have hM : ∃ b1 b2, inP eb k0 rs = b1 ∧ inP qb qk rs = b2 ∧ ((b1 = false ∧ b2 = false ∧ M = 0) ∨ (b1 = true ∧ b2 = false ∧ M = 1) ∨ (b1 = true ∧ b2 = true ∧ M = 0)) := by
              refine ⟨_, _, rfl, rfl, ?_⟩
              have h := HSUM.out
              cases h1 : inP eb k0 rs <;> cases h2 : inP qb qk rs <;> rw [h1, h2] at h <;> simp at h
              · exact Or.inl ⟨rfl, rfl, h.symm⟩
              · exact Or.inr (Or.inl ⟨rfl, rfl, by omega⟩)
              · exact Or.inr (Or.inr ⟨rfl, rfl, by omega⟩)
            obtain ⟨b1, b2, hb1', hb2', hcase⟩ := hM
            rw [hb1']
            clear hb1' HSUM
            rcases hcase with ⟨rfl, rfl, rfl⟩ | ⟨rfl, rfl, rfl⟩ | ⟨rfl, rfl, rfl⟩
            all_goals
              go_wp2_with fail
              refine (contains_c qa R qn qn qc rc qb rs qk z w7 (hz.keep hbb7) hq7 (hp'.keep hbb7) hR' (by omega) hiv hqv).mono ?_
              rintro e1 w8 ⟨rfl, hb8⟩
              rw [hb2']
              have hS8 := HS7.out.keep hb8
              have hbb8 := hbb7.trans (hb8.mono hbb7.size)
              clear cQ7 hq7 HS7 hb8 hb2'
              have cQ8 := hS8.bQ.cell
              have cP8 := hS8.bP.cell
              have lQ8 := hS8.bQ.lt
              have lP8 := hS8.bP.lt
              simp only at cQ8 cP8
              have hq8 : RB w8 qa qn qb := RB.of_own (hS8.own ⟨qa, qn, qc, qb, qk⟩ (by simp))
              have he8 : RB w8 ea qn eb := RB.of_own (hS8.own ⟨ea, qn, ec, eb, k0⟩ (by simp))
              clear hS8
              have rP : ∀ w', Below w8.heap.size w8 w' → ∀ i, w'.cell? ⟨w1.heap.size, i, none⟩ = #[Value.slice ea qn ec, .string ⟨#[]⟩, .int .i64 k0][i]? := fun w' h i => (h.cell (p := ⟨w1.heap.size, i, none⟩) lP8).trans (cP8 i)
              have rQ : ∀ w', Below w8.heap.size w8 w' → ∀ i, w'.cell? ⟨w1.heap.size + 1, i, none⟩ = #[Value.slice qa qn qc, .string ⟨#[]⟩, .int .i64 qk][i]? := fun w' h i => (h.cell (p := ⟨w1.heap.size + 1, i, none⟩) lQ8).trans (cQ8 i)
              have hdr : Below w8.heap.size w8 w8.drew := ⟨rfl, rfl, rfl, Nat.le_refl _, fun _ _ => rfl⟩
              go_wp2_with fail
              refine region_pick (Below w8.heap.size w8) [(0, false, none), (1, false, none), (2, false, none), (3, false, none), (4, false, none), (5, true, none), (6, false, none), (7, false, none)] 8 (by kernel_rfl) (by kernel_rfl) (fun w w' h hb => h.trans (hb.mono h.size)) (hdr) ?_
              simp only [pickOps, List.getElem?_cons_zero, List.getElem?_cons_succ]
              repeat (first | (refine t_skip rfl ?_; (simp only [Act.put, List.setIfInBounds_toArray, List.set_cons_zero, List.set_cons_succ])) | (refine t_run ?_ rfl (fun w1 hw1 => ?_) ?_; rotate_left; (have r0 := rP w1 hw1; have r1 := rQ w1 hw1; go_simp; try (with_reducible rfl)); (simp only [Act.put, List.setIfInBounds_toArray, List.set_cons_zero, List.set_cons_succ])))
              refine t_fresh ?_ ?_ (fun v w' => OwnB 0 qn (wb qb qk false) v w') (by rfl) (fun w1 hw1 => ?_) (fun v w w' h hb => h.keep hb) (fun w1 hw1 => ?_) ?_
              rotate_left 2
              (go_simp; refine ⟨?_, ?_⟩ <;> with_reducible rfl)
              (go_at_call 22; (with_reducible refine (firstOf_c qa qn qc qb qk w1 (hq8.keep hw1) hisl (by omega)).mono ?_); rintro e w2 ⟨v, rfl, ⟨g9, c9, rfl, hown9⟩, hb9⟩; exact ⟨_, rfl, ⟨g9, c9, rfl, own_mono hown9 (Nat.zero_le _)⟩, hb9⟩)
              rintro v8 ⟨-, -, g9, c9, rfl, -⟩
              (simp only [Act.put, List.setIfInBounds_toArray, List.set_cons_zero, List.set_cons_succ])
              repeat (first | (refine t_skip rfl ?_; (simp only [Act.put, List.setIfInBounds_toArray, List.set_cons_zero, List.set_cons_succ])) | (refine t_run ?_ rfl (fun w1 hw1 => ?_) ?_; rotate_left; (go_simp; try (with_reducible rfl)); (simp only [Act.put, List.setIfInBounds_toArray, List.set_cons_zero, List.set_cons_succ])) | (refine t_call ?_ ?_ ?_ rfl (fun w1 hw1 => ?_) (fun w1 hw1 => ?_) ?_; rotate_left 3; (go_simp; refine ⟨?_, ?_⟩ <;> with_reducible rfl); (first | (go_at_call 21; (with_reducible refine (contains_c ea (some ⟨g9, 0, none⟩) qn qn ec c9 eb (wb qb qk false) k0 z w1 (hz.keep (hbb8.trans (hw1.1.mono hbb8.size))) (he8.keep hw1.1) (RB.of_own hw1.2.own) (by simp) (by omega) hl hkv).mono ?_); rintro e w2 ⟨rfl, hb⟩; refine ⟨?_, hb⟩; with_reducible rfl) | (go_at_call 21; (refine (contains_c ea (some ⟨g9, 0, none⟩) qn qn ec c9 eb (wb qb qk false) k0 z w1 (hz.keep (hbb8.trans (hw1.1.mono hbb8.size))) (he8.keep hw1.1) (RB.of_own hw1.2.own) (by simp) (by omega) hl hkv).mono ?_); rintro e w2 ⟨rfl, hb⟩; refine ⟨?_, hb⟩; with_reducible rfl)); (simp only [Act.put, List.setIfInBounds_toArray, List.set_cons_zero, List.set_cons_succ])))
              intro w11 ⟨hw11, _⟩
              simp only [List.drop_succ_cons, List.drop_zero]
              rw [HFST.out]
              have hbb11 := hbb8.trans (hw11.mono hbb8.size)
              go_wp2
              go_returns
              exact ⟨rfl, hbb11⟩
      · have t1 : ((tn : Int) != en) = false := by simp [htn']
        have t2 : ((rn : Int) != en) = true := by simp; omega
        have t3 : (tn != en) = false := by simp [htn']
        have t4 : (rn != en) = true := by simpa using hrn'
        go_wp2_with fail
        go_returns
        exact ⟨rfl, hb1⟩
    · have t1 : ((tn : Int) != en) = true := by simp; omega
      have t3 : (tn != en) = true := by simpa using htn'
      go_wp2_with fail
      go_returns
      exact ⟨rfl, hb1⟩
  · rw [if_neg hl] at hmap
    obtain rfl : es = [] := List.map_eq_nil_iff.1 hmap
    clear hown hin hmap
    go_wp2_with fail
    go_returns
    exact ⟨rfl, hb1⟩
end Go.Proofs.YtckfgdohpmllmaaDoor
