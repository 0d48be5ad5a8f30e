/-
  The walk of laws.FnSortedAlike.
-/
import Derived.Test.YtckfgdohpmllmaaDoorMaskO
namespace Go.Proofs.YtckfgdohpmllmaaDoor
open Go Go.RowKit
/-- Two of a list in order: what Compare says, and whether they are the same. -/
theorem alike_three {e f : Pf} {i k : Nat} {fs : List Pf} (hs : fs.Pairwise lePf) (hv : ∀ e ∈ fs, Vp e.is) (he : fs[i]? = some e) (hf : fs[k]? = some f) :
    (e.is = f.is ∧ cmpP e.bs e.k f.bs f.k = 0) ∨ (e.is ≠ f.is ∧ i < k ∧ cmpP e.bs e.k f.bs f.k = -1) ∨ (e.is ≠ f.is ∧ k < i ∧ cmpP e.bs e.k f.bs f.k = 1) := by
  have ve := hv e (List.mem_of_getElem? he)
  have vf := hv f (List.mem_of_getElem? hf)
  rw [cmpP_key e.bs f.bs e.k f.k ve.k8 vf.k8]
  have e1 : pkey (e.bs, e.k) = pkey e.is := rfl
  have e2 : pkey (f.bs, f.k) = pkey f.is := rfl
  rw [e1, e2]
  by_cases heq : e.is = f.is
  · refine .inl ⟨heq, ?_⟩
    rw [heq]
    unfold cmpI
    simp
  · have hne : pkey e.is ≠ pkey f.is := fun h => heq (pkey_inj ve vf h)
    rcases Nat.lt_trichotomy i k with h | h | h
    · have := sort_get hs he hf (by omega)
      exact .inr (.inl ⟨heq, h, by unfold cmpI; rw [if_pos (by omega)]⟩)
    · subst h
      rw [he] at hf
      injection hf with hf
      subst hf
      exact absurd rfl heq
    · have := sort_get hs hf he (by omega)
      exact .inr (.inr ⟨heq, h, by unfold cmpI; rw [if_neg (by omega), if_pos (by omega)]⟩)
set_option maxRecDepth 100000 in
set_option maxHeartbeats 32000000 in
theorem alike_walk (A : Option Addr) (n c : Nat) (es0 : List En) (B : Option Addr) (m d : Nat) (xs : List UInt8) (R : Option Addr) (rn rc : Nat) (rs : List UInt8) (z : ZP) (w : World) (hz : Zs w z) (hl : RS w A n es0) (hn : n ≤ 1048576) (hx : RB w B m xs) (hm : m ≤ 140737488355328)
    (hr : RB w R rn rs) (hrn : rn ≤ 140737488355328) :
    Calls Tryd.prog 8 #[.slice A n c, .slice B m d, .slice R rn rc] w (TrueW w) := by
  obtain ⟨i0, hi, hz0, hz1, hz2⟩ := info_parts infoPf
  have hval := madeZ_valid ((es0.map (·.bs)).zip xs)
  have hmlen : (madeZ ((es0.map (·.bs)).zip xs)).length ≤ n := Nat.le_trans (madeZ_len _) (by rw [List.length_zip, List.length_map, hl.1]; omega)
  go_enter Tryd.func8, Tryd.ntmps8
  go_wp2_with fail
  refine (made_c A n c es0 B m d xs w hl (by omega) hx (by omega)).mono ?_
  rintro e0 w1 ⟨v1, rfl, ⟨A1, c1, es, rfl, hown, hmap, hin⟩, hb1⟩
  rw [← hmap] at hval hmlen
  rw [List.length_map] at hmlen
  have hrp := RP.of_own hown rfl hin
  have hzA := hz.keep hb1
  have hv : ∀ e ∈ es, Vp e.is := fun e he => hval e.is (List.mem_map_of_mem he)
  have hr1 := hr.keep hb1
  have HV := Lib.hid hv
  clear hmap hin hval hv hz hl hx hr
  rcases hown.2 with ⟨hnil, hlen0⟩ | ⟨g0, cap0, cur0, hsome, -⟩
  · obtain rfl : es = [] := List.eq_nil_of_length_eq_zero hlen0
    simp at hnil
    obtain ⟨rfl, rfl⟩ := hnil
    have HRP := Lib.hid hrp
    clear hown hlen0 hrp
    go_wp2_with (at_builtin; refine wpList_append_own_none rfl _ _ 23 rfl w1.heap.size 29 i0 3 Tryd.underlying23 hi _ _ [] rfl (World.ownsRow_nil _ _ _ _) rfl ?_)
    go_loopw [25] (fun i wr => ∃ (t : Nat), t ≤ rn ∧ i = .int .i64 t ∧ Below w1.heap.size w1 wr) (fun i _ => rn - (intOf i).toNat)
    case atStart => exact ⟨0, Nat.zero_le _, rfl, Below.refl _ _⟩
    case round =>
      obtain ⟨t, ht, rfl, hbt⟩ := hrel
      by_cases htl : t < rn
      · obtain ⟨g2, o2, hB, hg2, hc2⟩ := (hr1.keep hbt).2 (by omega)
        subst hB
        have hcx := hc2 t htl
        generalize (rs.getD t 0).toNat = y at *
        clear hc2
        go_wp2
        go_roundw
        case rel => exact ⟨t + 1, by omega, by go_num, hbt⟩
        case measure => simp [intOf]; omega
      · obtain rfl : t = rn := by omega
        go_wp2_with fail
        refine (sorted_none none 0 wr).mono ?_
        rintro e1 w4 ⟨A4, c4, fs, rfl, hown4, hsort4, hb4⟩
        go_wp2_with fail
        refine (sorted_none none 0 w4).mono ?_
        rintro e1 w5 ⟨A5, c5, gs, rfl, hown5, hsort5, hb5⟩
        have hbw := hb1.trans ((hbt.trans ((hb4.trans (hb5.mono hb4.size)).mono hbt.size)).mono hb1.size)
        have hs4 : RP w5 A4 0 [] := ⟨rfl, fun h => absurd h (by simp [pfCells]), fun e he => (by simp at he)⟩
        have hs5 : RP w5 A5 0 [] := ⟨rfl, fun h => absurd h (by simp [pfCells]), fun e he => (by simp at he)⟩
        clear hown4 hsort4 hown5 hsort5
        go_wp2_with fail
        refine (samePfs_c A4 A5 0 c4 c5 [] [] w5 hs4 hs5 (fun e he => (by simp at he)) rfl (by omega)).mono ?_
        rintro e1 w6 ⟨rfl, hb6⟩
        have hbw6 := hbw.trans (hb6.mono hbw.size)
        clear hs4 hs5
        go_wp2_with fail
        refine wp_loop_rounds 1 ?_
        rw [rounds_succ]
        go_wp2
        go_returns
        exact ⟨rfl, hbw6⟩
  · simp only [Value.slice.injEq] at hsome
    obtain ⟨rfl, -, rfl⟩ := hsome
    have HRP := Lib.hid hrp
    obtain ⟨L, hL⟩ : ∃ L, L = es.length := ⟨_, rfl⟩
    have hc := RC.of_own hown
    rw [← hL] at hmlen hown ⊢
    have hnews : ∀ (j : Nat) (u : Value), (pfCells es)[j]? = some u → w1.cell? ((⟨g0, 0, none⟩ : Addr).add j) = some u := fun j u hj => hown.cells rfl j u hj
    have hpl := pfCells_len es
    rw [← hL] at hpl
    have HN := Lib.hid hnews
    have HL := Lib.hid hL
    clear hc hown hrp hnews hL
    go_wp2_with (at_builtin; refine wpList_append_own _ rfl _ _ 23 rfl w1.heap.size 29 i0 (.agg #[.slice none 0 0, .string ⟨#[]⟩, .int .i64 0]) 3 48 Tryd.underlying23 hi hz0 hz1 hz2 rfl (by decide) _ 0 [] rfl (World.ownsRow_nil _ _ _ _) ⟨g0, 0, none⟩ L _ (pfCells es) rfl ?c0 ?c1 ?c2 ?c3 ?c4 ?c5 ?_)
    case c0 => exact hpl
    case c1 => exact HN.out
    case c2 => intro u hu; simp [pfCells, Pf.cells] at hu; obtain ⟨b, _, rfl | rfl | rfl⟩ := hu <;> rfl
    case c3 => unfold maxLen; omega
    case c4 => omega
    case c5 => exact Nat.le_refl _
    intro v8 w8 hown8 hgrow _
    have hb8 : Below w1.heap.size w1 w8 := below_grown hgrow (Nat.le_refl _) (by intro g hg; cases hg)
    try simp only [Nat.zero_add, List.nil_append] at hown8
    obtain ⟨A8, c8, rfl⟩ := own_slice hown8
    have HO8 := Lib.hid hown8
    clear hown8 hgrow HN hpl
    go_wp2_with fail
    go_loopw [25] (fun i wr => ∃ (t : Nat) (es' : List Pf), t ≤ rn ∧ i = .int .i64 t ∧ wr.ownsRow w1.heap.size 29 3 (.slice A8 L c8) L (pfCells es') ∧ es'.Perm es ∧ Below w1.heap.size w1 wr) (fun i _ => rn - (intOf i).toNat)
    case atStart => exact ⟨0, es, Nat.zero_le _, rfl, HO8.out, List.Perm.refl _, hb8⟩
    case round =>
      clear HO8 hb8
      obtain ⟨t, es', ht, rfl, hown, hperm, hbb⟩ := hrel
      have hel : es'.length = L := by rw [hperm.length_eq, ← HL.out]
      have HEL := Lib.hid (And.intro hel hperm)
      clear hperm
      by_cases htl : t < rn
      · obtain ⟨g2, o2, hB, hg2, hc2⟩ := (hr1.keep hbb).2 (by omega)
        subst hB
        have hcx := hc2 t htl
        have hy256 : (rs.getD t 0).toNat < 256 := (rs.getD t 0).toBitVec.isLt
        generalize (rs.getD t 0).toNat = y at *
        clear hc2
        by_cases htL : t < L
        · obtain ⟨r, hrd⟩ : ∃ r, r = y % (L - t) := ⟨_, rfl⟩
          have hrl : r < L - t := by rw [hrd]; exact Nat.mod_lt _ (by omega)
          have hdm : (y : Int) % ((L : Int) - (t : Int)) = (r : Int) := by rw [hrd]; push_cast; congr 1; omega
          obtain ⟨g8, hA8, hg8, hcell⟩ := own_some hown (by omega)
          subst hA8
          obtain ⟨e, he⟩ : ∃ e, e = es'[t]'(by omega) := ⟨_, rfl⟩
          obtain ⟨f, hf⟩ : ∃ f, f = es'[t + r]'(by omega) := ⟨_, rfl⟩
          have het : es'[t]? = some e := by rw [he]; exact List.getElem?_eq_getElem _
          have hft : es'[t + r]? = some f := by rw [hf]; exact List.getElem?_eq_getElem _
          have hpm : ((es'.set t f).set (t + r) e).Perm es' := by rw [he, hf]; exact List.set_set_perm _ _
          obtain ⟨a0, a1, a2⟩ := pfCells_at _ _ _ het
          obtain ⟨b0, b1, b2⟩ := pfCells_at _ _ _ hft
          replace a0 := hcell _ _ a0
          replace a1 := hcell _ _ a1
          replace a2 := hcell _ _ a2
          replace b0 := hcell _ _ b0
          replace b1 := hcell _ _ b1
          replace b2 := hcell _ _ b2
          obtain ⟨cur, hblk, -, -, -, hBg⟩ := own_rowBlk hown
          have hxa : Below wr.heap.size wr (wr.alloc (.cells #[.slice e.a e.n e.c, .string ⟨#[]⟩, .int .i64 e.k] 29)) := (Below.refl _ _).alloc (Nat.le_refl _) _
          have hbox : Blk (wr.alloc (.cells #[.slice e.a e.n e.c, .string ⟨#[]⟩, .int .i64 e.k] 29)) wr.heap.size 29 #[.slice e.a e.n e.c, .string ⟨#[]⟩, .int .i64 e.k] := heap_alloc_new _ _
          have hne : g8 ≠ wr.heap.size := by omega
          obtain ⟨gX, hgX⟩ : ∃ gX, gX = wr.heap.size := ⟨_, rfl⟩
          have HX := Lib.hid (And.intro hgX (And.intro (own_below hown hxa) (And.intro (hbb.trans (hxa.mono hbb.size)) (And.intro hbox (And.intro hne (And.intro het (And.intro hft hpm)))))))
          clear hgX hown hbb hxa hbox hne hblk hcell hel het hft hpm he hf hrd hg8
          go_upto_region 9 with fail
          obtain ⟨hgX, hO10, hb10, hbox, hne, het, hft, hpm⟩ := HX.out
          rw [← hgX] at hne hbox ⊢
          clear HX hgX a0 a1 a2 b0 b1 b2 hcx
          generalize wr.alloc (.cells #[.slice e.a e.n e.c, .string ⟨#[]⟩, .int .i64 e.k] 29) = w10 at *
          obtain ⟨cur2, hblk, -, -, -, -⟩ := own_rowBlk hO10
          obtain ⟨gg, hgg, hltg, hcell⟩ := own_some hO10 (by omega)
          injection hgg with hgg
          injection hgg with hgg
          subst hgg
          obtain ⟨a0, a1, a2⟩ := pfCells_at _ _ _ het
          obtain ⟨b0, b1, b2⟩ := pfCells_at _ _ _ hft
          replace a0 := hcell _ _ a0
          replace a1 := hcell _ _ a1
          replace a2 := hcell _ _ a2
          replace b0 := hcell _ _ b0
          replace b1 := hcell _ _ b1
          replace b2 := hcell _ _ b2
          have f10 := hblk.free
          have hO11 := own_put (own_put (own_put hO10 (t * 3) (.slice f.a f.n f.c)) (t * 3 + 1) (.string ⟨#[]⟩)) (t * 3 + 2) (.int .i64 f.k)
          rw [pfCells_set _ t f (by have := HEL.out.1; omega)] at hO11
          have hb11 := ((hb10.setCell (p := ⟨g8, t * 3, none⟩) hBg (.slice f.a f.n f.c)).setCell (p := ⟨g8, t * 3 + 1, none⟩) hBg (.string ⟨#[]⟩)).setCell (p := ⟨g8, t * 3 + 2, none⟩) hBg (.int .i64 f.k)
          have hbox2 : Blk (((w10.setCell ⟨g8, t * 3, none⟩ (.slice f.a f.n f.c)).setCell ⟨g8, t * 3 + 1, none⟩ (.string ⟨#[]⟩)).setCell ⟨g8, t * 3 + 2, none⟩ (.int .i64 f.k)) gX 29 #[.slice e.a e.n e.c, .string ⟨#[]⟩, .int .i64 e.k] :=
            (Below.heap_setCell _ _ _ _ hne.symm).trans ((Below.heap_setCell _ _ _ _ hne.symm).trans ((Below.heap_setCell _ _ _ _ hne.symm).trans hbox))
          have hf2 : (es'.set t f)[t + r]? = some f := by
            rw [List.getElem?_set]
            split
            · rw [if_pos (by have := HEL.out.1; omega)]
            · exact hft
          have HX := Lib.hid (And.intro hO11 (And.intro hb11 (And.intro hbox2 (And.intro hf2 hpm))))
          clear hO11 hb11 hbox2 hblk hcell hO10 hb10 hbox het hft hf2 hpm
          go_upto_region 10 with fail
          obtain ⟨hO11, hb11, hbox, hf2, hpm⟩ := HX.out
          clear HX a0 a1 a2 b0 b1 b2 f10 hltg
          generalize ((w10.setCell ⟨g8, t * 3, none⟩ (.slice f.a f.n f.c)).setCell ⟨g8, t * 3 + 1, none⟩ (.string ⟨#[]⟩)).setCell ⟨g8, t * 3 + 2, none⟩ (.int .i64 f.k) = w11 at *
          obtain ⟨cur3, hblk, -, -, -, -⟩ := own_rowBlk hO11
          obtain ⟨gg, hgg, hltg, hcell⟩ := own_some hO11 (by omega)
          injection hgg with hgg
          injection hgg with hgg
          subst hgg
          obtain ⟨b0, b1, b2⟩ := pfCells_at _ _ _ hf2
          replace b0 := hcell _ _ b0
          replace b1 := hcell _ _ b1
          replace b2 := hcell _ _ b2
          have f11 := hblk.free
          have rX := hbox.cell
          have hO12 := own_put (own_put (own_put hO11 ((t + r) * 3) (.slice e.a e.n e.c)) ((t + r) * 3 + 1) (.string ⟨#[]⟩)) ((t + r) * 3 + 2) (.int .i64 e.k)
          rw [pfCells_set _ (t + r) e (by rw [List.length_set]; have := HEL.out.1; omega)] at hO12
          have hb12 := ((hb11.setCell (p := ⟨g8, (t + r) * 3, none⟩) hBg (.slice e.a e.n e.c)).setCell (p := ⟨g8, (t + r) * 3 + 1, none⟩) hBg (.string ⟨#[]⟩)).setCell (p := ⟨g8, (t + r) * 3 + 2, none⟩) hBg (.int .i64 e.k)
          have G1 := Lib.hid hO12
          have G2 := Lib.hid hb12
          have G3 := Lib.hid (hpm.trans HEL.out.2)
          clear hO12 hb12 hO11 hb11 hblk hcell hf2 hpm hbox
          go_wp2_with fail
          go_roundw
          case rel => exact ⟨t + 1, _, by omega, by go_num, G1.out, G3.out, G2.out⟩
          case measure => simp [intOf]; omega
        · have G1 := Lib.hid hown
          clear hown hel
          go_wp2_with fail
          go_roundw
          case rel => exact ⟨t + 1, es', by omega, by go_num, G1.out, HEL.out.2, hbb⟩
          case measure => simp [intOf]; omega
      · obtain rfl : t = rn := by omega
        have hrpL : RP wr (some ⟨g0, 0, none⟩) L es := by have := HRP.out.keep hbb; rw [← HL.out] at this; exact this
        have hrpE : RP wr A8 L es' := ⟨hel, RC.of_own hown, fun q hq => hrpL.2.2 q (HEL.out.2.subset hq)⟩
        have hz9 := hzA.keep hbb
        have hso := fun c => sorted_c (some ⟨g0, 0, none⟩) L c es z wr hz9 hrpL HV.out (by omega)
        unfold SortPost at hso
        rw [← HL.out] at hso
        have hbw := hb1.trans (hbb.mono hb1.size)
        clear hown hel hbb hb1
        go_wp2_with fail
        refine (hso _).mono ?_
        rintro e1 w4 ⟨A4, c4, fs, rfl, hown4, hsort4, hb4⟩
        have hve' : ∀ q ∈ es', Vp q.is := fun q hq => HV.out q (HEL.out.2.subset hq)
        have hso2 := sorted_c A8 L c8 es' z w4 (hz9.keep hb4) (hrpE.keep hb4) hve' (by omega)
        unfold SortPost at hso2
        rw [HEL.out.1] at hso2
        have hrp4 : RP w4 A4 L fs := ⟨by rw [hsort4.1.length_eq, HL.out], RC.of_own hown4, fun q hq => (hrpL.2.2 q (hsort4.1.subset hq)).keep hb4⟩
        have HF := Lib.hid hsort4
        clear hso hown4 hsort4
        go_wp2_with fail
        refine hso2.mono ?_
        rintro e1 w5 ⟨A5, c5, gs, rfl, hown5, hsort5, hb5⟩
        have hrp5 : RP w5 A5 L gs := ⟨by rw [hsort5.1.length_eq, HEL.out.1], RC.of_own hown5, fun q hq => ((hrpE.2.2 q (hsort5.1.subset hq)).keep hb4).keep hb5⟩
        have hvf : ∀ q ∈ fs, Vp q.is := HF.out.all HV.out
        have hsame : fs.map Pf.is = gs.map Pf.is := sort_uniq _ _ (fun p hp => by obtain ⟨q, hq, rfl⟩ := List.mem_map.1 hp; exact hvf q hq) ((HF.out.1.trans (HEL.out.2.symm.trans hsort5.1.symm)).map _) (sorted_is HF.out.2) (sorted_is hsort5.2)
        have hsm := samePfs_c A4 A5 L c4 c5 fs gs w5 (hrp4.keep hb5) hrp5 hvf hsame (by omega)
        have HVF := Lib.hid hvf
        clear hso2 hown5 hsort5 hsame hvf hve'
        go_wp2_with fail
        refine hsm.mono ?_
        rintro e1 w6 ⟨rfl, hb6⟩
        have hb46 := hb5.trans (hb6.mono hb5.size)
        have hrp6 := hrp4.keep hb46
        have hz6 := (hz9.keep hb4).keep hb46
        have hbw6 := hbw.trans ((hb4.trans (hb46.mono hb4.size)).mono hbw.size)
        clear hsm hrp4 hrp5 hb4 hb5 hb6 hb46 hrpL hrpE hz9 hbw hr1
        obtain ⟨wo, hwo⟩ : ∃ wo, wo = wr := ⟨_, rfl⟩
        subst hwo
        go_wp2_with fail
        go_loopw [69] (fun i wr => ∃ (j : Nat), j ≤ L ∧ i = .int .i64 j ∧ Below w6.heap.size w6 wr) (fun i _ => L - (intOf i).toNat)
        case atStart => exact ⟨0, Nat.zero_le _, rfl, Below.refl _ _⟩
        case round =>
          obtain ⟨j, hj, rfl, hbj⟩ := hrel
          by_cases hjL : j < L
          · go_wp2_with fail
            obtain ⟨wo2, hwo⟩ : ∃ wo2, wo2 = wr := ⟨_, rfl⟩
            subst hwo
            go_loopw [74] (fun i wr => ∃ (k : Nat), k ≤ L ∧ i = .int .i64 k ∧ Below w6.heap.size w6 wr) (fun i _ => L - (intOf i).toNat)
            case atStart => exact ⟨0, Nat.zero_le _, rfl, hbj⟩
            case round =>
              clear hbj
              obtain ⟨k, hk, rfl, hbk⟩ := hrel
              by_cases hkL : k < L
              · obtain ⟨g, o, e, hA, hg, hek, hc0, hc1, hc2, hbe⟩ := (hrp6.keep hbk).at (i := j) hjL
                subst hA
                obtain ⟨g', o', f, hA', hg', hfk, hd0, hd1, hd2, hbf⟩ := (hrp6.keep hbk).at (i := k) hkL
                injection hA' with hA'
                injection hA' with hA1 hA2
                subst hA1 hA2
                have hve := HVF.out e (List.mem_of_getElem? hek)
                have hvf := HVF.out f (List.mem_of_getElem? hfk)
                have hthree := alike_three HF.out.2 HVF.out hek hfk
                have hen : e.n ≤ 9223372036854775807 := by have h5 := hve.1; rw [← hbe.1]; unfold isLen at h5; simp only [Pf.is] at h5; omega
                have kS := fun w' (h : Below wr.heap.size wr w') => samePf_c e.a f.a e.n f.n e.c f.c e.bs f.bs e.k f.k w' (hbe.keep h) (hbf.keep h) hen
                have kC := fun w' (h : Below wr.heap.size wr w') => compared_c e.a f.a e.n f.n e.c f.c e.bs f.bs e.k f.k z w' ((hz6.keep hbk).keep h) (hbe.keep h) (hbf.keep h) hve.1 hve.2 hvf.1 hvf.2
                have rE : ∀ w', Below wr.heap.size wr w' → w'.cell? ⟨g, o + j * 3, none⟩ = some (.slice e.a e.n e.c) ∧ w'.cell? ⟨g, o + j * 3 + 1, none⟩ = some (.string ⟨#[]⟩) ∧ w'.cell? ⟨g, o + j * 3 + 2, none⟩ = some (.int .i64 e.k) := fun w' h =>
                  ⟨(h.cell (p := ⟨g, o + j * 3, none⟩) hg).trans hc0, (h.cell (p := ⟨g, o + j * 3 + 1, none⟩) hg).trans hc1, (h.cell (p := ⟨g, o + j * 3 + 2, none⟩) hg).trans hc2⟩
                have rF : ∀ w', Below wr.heap.size wr w' → w'.cell? ⟨g, o + k * 3, none⟩ = some (.slice f.a f.n f.c) ∧ w'.cell? ⟨g, o + k * 3 + 1, none⟩ = some (.string ⟨#[]⟩) ∧ w'.cell? ⟨g, o + k * 3 + 2, none⟩ = some (.int .i64 f.k) := fun w' h =>
                  ⟨(h.cell (p := ⟨g, o + k * 3, none⟩) hg).trans hd0, (h.cell (p := ⟨g, o + k * 3 + 1, none⟩) hg).trans hd1, (h.cell (p := ⟨g, o + k * 3 + 2, none⟩) hg).trans hd2⟩
                have q1 : (0 : Int) ≤ j ∧ (j : Int) < L := by omega
                have q2 : (0 : Int) ≤ k ∧ (k : Int) < L := by omega
                have HQ := Lib.hid (And.intro q1 q2)
                have hdr : Below wr.heap.size wr wr.drew := ⟨rfl, rfl, rfl, Nat.le_refl _, fun _ _ => rfl⟩
                clear hek hfk hc0 hc1 hc2 hd0 hd1 hd2 q1 q2 hve hvf hen
                rcases hthree with ⟨heq, hC⟩ | ⟨heq, hjk, hC⟩ | ⟨heq, hjk, hC⟩
                · have kc : ∀ w', Below wr.heap.size wr w' → Calls Tryd.prog 33 #[.agg #[.slice e.a e.n e.c, .string ⟨#[]⟩, .int .i64 e.k], .agg #[.slice f.a f.n f.c, .string ⟨#[]⟩, .int .i64 f.k]] w' fun e w'' => e = .returned (.int .i64 (0)) ∧ Below w'.heap.size w' w'' := fun w' h => by
                    have := kC w' h
                    rw [hC] at this
                    exact this
                  have ks : ∀ w', Below wr.heap.size wr w' → Calls Tryd.prog 34 #[.agg #[.slice e.a e.n e.c, .string ⟨#[]⟩, .int .i64 e.k], .agg #[.slice f.a f.n f.c, .string ⟨#[]⟩, .int .i64 f.k]] w' fun e w'' => e = .returned (.bool true) ∧ Below w'.heap.size w' w'' := fun w' h => by
                    have := kS w' h
                    rw [show decide ((e.bs, e.k) = (f.bs, f.k)) = true by simpa [Pf.is] using heq] at this
                    exact this
                  clear kC kS hC heq
                  go_wp2_with fail
                  refine region_pick (Below wr.heap.size wr) [(0, false, none), (1, false, none), (2, false, none), (3, false, none), (4, false, none), (5, false, none), (6, false, none), (7, false, none), (8, false, none), (9, false, none)] 10 (by kernel_rfl) (by kernel_rfl) (fun w w' h hb => h.trans (hb.mono h.size)) (hdr) ?_
                  simp only [pickOps, List.getElem?_cons_zero, List.getElem?_cons_succ]
                  repeat (first | (refine t_skip rfl ?_; (simp only [Act.put, List.setIfInBounds_toArray, List.set_cons_zero, List.set_cons_succ])) | (refine t_run ?_ rfl (fun w1 hw1 => ?_) ?_; rotate_left; (have r0 := (rE w1 hw1).1; have r1 := (rE w1 hw1).2.1; have r2 := (rE w1 hw1).2.2; have r3 := (rF w1 hw1).1; have r4 := (rF w1 hw1).2.1; have r5 := (rF w1 hw1).2.2; have r6 := HQ.out.1; have r7 := HQ.out.2; go_simp; try (with_reducible rfl)); (simp only [Act.put, List.setIfInBounds_toArray, List.set_cons_zero, List.set_cons_succ])) | (refine t_call ?_ ?_ ?_ rfl (fun w1 hw1 => ?_) (fun w1 hw1 => ?_) ?_; rotate_left 3; (have r0 := (rE w1 hw1).1; have r1 := (rE w1 hw1).2.1; have r2 := (rE w1 hw1).2.2; have r3 := (rF w1 hw1).1; have r4 := (rF w1 hw1).2.1; have r5 := (rF w1 hw1).2.2; have r6 := HQ.out.1; have r7 := HQ.out.2; go_simp; refine ⟨?_, ?_⟩ <;> with_reducible rfl); (first | (go_at_call 33; (with_reducible refine (kc w1 hw1).mono ?_); rintro e w2 ⟨rfl, hb⟩; refine ⟨?_, hb⟩; with_reducible rfl) | (go_at_call 33; (refine (kc w1 hw1).mono ?_); rintro e w2 ⟨rfl, hb⟩; refine ⟨?_, hb⟩; with_reducible rfl)); (simp only [Act.put, List.setIfInBounds_toArray, List.set_cons_zero, List.set_cons_succ])))
                  intro w9 hw9
                  simp only [List.drop_succ_cons, List.drop_zero]
                  have hdr9 : Below wr.heap.size wr w9.drew := hw9.drew
                  go_wp2_with fail
                  refine region_pick (Below wr.heap.size wr) [(0, false, none), (1, false, none), (2, false, none), (3, false, none), (4, false, none), (5, false, none), (6, false, none), (7, false, none), (8, false, none), (9, false, none), (10, false, none), (11, false, none), (12, false, none), (13, false, none), (14, false, none), (15, false, none), (16, false, none), (17, false, none), (18, false, none), (19, false, none), (20, false, none), (21, false, none), (22, false, none), (23, false, none), (24, false, none), (25, false, none), (26, false, none), (27, false, none), (28, false, none), (29, false, none), (30, false, none), (31, false, none), (32, false, none), (33, false, none), (34, false, none), (35, false, none), (36, false, none), (37, false, none), (38, false, none), (39, false, none)] 40 (by kernel_rfl) (by kernel_rfl) (fun w w' h hb => h.trans (hb.mono h.size)) (hdr9) ?_
                  simp only [pickOps, List.getElem?_cons_zero, List.getElem?_cons_succ]
                  repeat (first | (refine t_skip rfl ?_; (simp only [Act.put, List.setIfInBounds_toArray, List.set_cons_zero, List.set_cons_succ])) | (refine t_run ?_ rfl (fun w1 hw1 => ?_) ?_; rotate_left; (have r0 := (rE w1 hw1).1; have r1 := (rE w1 hw1).2.1; have r2 := (rE w1 hw1).2.2; have r3 := (rF w1 hw1).1; have r4 := (rF w1 hw1).2.1; have r5 := (rF w1 hw1).2.2; have r6 := HQ.out.1; have r7 := HQ.out.2; go_simp; try (with_reducible rfl)); (simp only [Act.put, List.setIfInBounds_toArray, List.set_cons_zero, List.set_cons_succ])) | (refine t_call ?_ ?_ ?_ rfl (fun w1 hw1 => ?_) (fun w1 hw1 => ?_) ?_; rotate_left 3; (have r0 := (rE w1 hw1).1; have r1 := (rE w1 hw1).2.1; have r2 := (rE w1 hw1).2.2; have r3 := (rF w1 hw1).1; have r4 := (rF w1 hw1).2.1; have r5 := (rF w1 hw1).2.2; have r6 := HQ.out.1; have r7 := HQ.out.2; go_simp; refine ⟨?_, ?_⟩ <;> with_reducible rfl); (first | (go_at_call 34; (with_reducible refine (ks w1 hw1).mono ?_); rintro e w2 ⟨rfl, hb⟩; refine ⟨?_, hb⟩; with_reducible rfl) | (go_at_call 34; (refine (ks w1 hw1).mono ?_); rintro e w2 ⟨rfl, hb⟩; refine ⟨?_, hb⟩; with_reducible rfl)); (simp only [Act.put, List.setIfInBounds_toArray, List.set_cons_zero, List.set_cons_succ])))
                  intro w10 hw10
                  simp only [List.drop_succ_cons, List.drop_zero]
                  have hb10 := hbk.trans (hw10.mono hbk.size)
                  clear rE rF kc ks hdr hdr9
                  go_wp2
                  go_roundw
                  case rel => exact ⟨k + 1, by omega, by go_num, hb10⟩
                  case measure => simp [intOf]; omega
                · have kc : ∀ w', Below wr.heap.size wr w' → Calls Tryd.prog 33 #[.agg #[.slice e.a e.n e.c, .string ⟨#[]⟩, .int .i64 e.k], .agg #[.slice f.a f.n f.c, .string ⟨#[]⟩, .int .i64 f.k]] w' fun e w'' => e = .returned (.int .i64 (-1)) ∧ Below w'.heap.size w' w'' := fun w' h => by
                    have := kC w' h
                    rw [hC] at this
                    exact this
                  have ks : ∀ w', Below wr.heap.size wr w' → Calls Tryd.prog 34 #[.agg #[.slice e.a e.n e.c, .string ⟨#[]⟩, .int .i64 e.k], .agg #[.slice f.a f.n f.c, .string ⟨#[]⟩, .int .i64 f.k]] w' fun e w'' => e = .returned (.bool false) ∧ Below w'.heap.size w' w'' := fun w' h => by
                    have := kS w' h
                    rw [show decide ((e.bs, e.k) = (f.bs, f.k)) = false by simpa [Pf.is] using heq] at this
                    exact this
                  clear kC kS hC heq
                  have p1 : decide (j < k) = true ∧ decide ((j : Int) < (k : Int)) = true := by simp; omega
                  have HP := Lib.hid p1
                  clear p1 hjk
                  go_wp2_with fail
                  refine region_pick (Below wr.heap.size wr) [(0, false, none), (1, false, none), (2, false, none), (3, false, none), (4, false, none), (5, false, none), (6, false, none), (7, false, none), (8, false, none), (9, false, none)] 10 (by kernel_rfl) (by kernel_rfl) (fun w w' h hb => h.trans (hb.mono h.size)) (hdr) ?_
                  simp only [pickOps, List.getElem?_cons_zero, List.getElem?_cons_succ]
                  repeat (first | (refine t_skip rfl ?_; (simp only [Act.put, List.setIfInBounds_toArray, List.set_cons_zero, List.set_cons_succ])) | (refine t_run ?_ rfl (fun w1 hw1 => ?_) ?_; rotate_left; (have r0 := (rE w1 hw1).1; have r1 := (rE w1 hw1).2.1; have r2 := (rE w1 hw1).2.2; have r3 := (rF w1 hw1).1; have r4 := (rF w1 hw1).2.1; have r5 := (rF w1 hw1).2.2; have r6 := HQ.out.1; have r7 := HQ.out.2; go_simp; try (with_reducible rfl)); (simp only [Act.put, List.setIfInBounds_toArray, List.set_cons_zero, List.set_cons_succ])) | (refine t_call ?_ ?_ ?_ rfl (fun w1 hw1 => ?_) (fun w1 hw1 => ?_) ?_; rotate_left 3; (have r0 := (rE w1 hw1).1; have r1 := (rE w1 hw1).2.1; have r2 := (rE w1 hw1).2.2; have r3 := (rF w1 hw1).1; have r4 := (rF w1 hw1).2.1; have r5 := (rF w1 hw1).2.2; have r6 := HQ.out.1; have r7 := HQ.out.2; go_simp; refine ⟨?_, ?_⟩ <;> with_reducible rfl); (first | (go_at_call 33; (with_reducible refine (kc w1 hw1).mono ?_); rintro e w2 ⟨rfl, hb⟩; refine ⟨?_, hb⟩; with_reducible rfl) | (go_at_call 33; (refine (kc w1 hw1).mono ?_); rintro e w2 ⟨rfl, hb⟩; refine ⟨?_, hb⟩; with_reducible rfl)); (simp only [Act.put, List.setIfInBounds_toArray, List.set_cons_zero, List.set_cons_succ])))
                  intro w9 hw9
                  simp only [List.drop_succ_cons, List.drop_zero]
                  have hdr9 : Below wr.heap.size wr w9.drew := hw9.drew
                  go_wp2_with fail
                  refine region_pick (Below wr.heap.size wr) [(0, false, none), (1, false, none), (2, false, none), (3, false, none), (4, false, none), (5, false, none), (6, false, none), (7, false, none), (8, false, none), (9, false, none), (10, false, none), (11, false, none), (12, false, none), (13, false, none), (14, false, none), (15, false, none), (16, false, none), (17, false, none), (18, false, none), (19, false, none), (20, false, none), (21, false, none), (22, false, none), (23, false, none), (24, false, none), (25, false, none), (26, false, none), (27, false, none), (28, false, none), (29, false, none), (30, false, none), (31, false, none), (32, false, none), (33, false, none), (34, false, none), (35, false, none), (36, false, none), (37, false, none), (38, false, none), (39, false, none)] 40 (by kernel_rfl) (by kernel_rfl) (fun w w' h hb => h.trans (hb.mono h.size)) (hdr9) ?_
                  simp only [pickOps, List.getElem?_cons_zero, List.getElem?_cons_succ]
                  repeat (first | (refine t_skip rfl ?_; (simp only [Act.put, List.setIfInBounds_toArray, List.set_cons_zero, List.set_cons_succ])) | (refine t_run ?_ rfl (fun w1 hw1 => ?_) ?_; rotate_left; (have r0 := (rE w1 hw1).1; have r1 := (rE w1 hw1).2.1; have r2 := (rE w1 hw1).2.2; have r3 := (rF w1 hw1).1; have r4 := (rF w1 hw1).2.1; have r5 := (rF w1 hw1).2.2; have r6 := HQ.out.1; have r7 := HQ.out.2; have r8 := HP.out.1; have r9 := HP.out.2; go_simp; try (with_reducible rfl)); (simp only [Act.put, List.setIfInBounds_toArray, List.set_cons_zero, List.set_cons_succ])) | (refine t_call ?_ ?_ ?_ rfl (fun w1 hw1 => ?_) (fun w1 hw1 => ?_) ?_; rotate_left 3; (have r0 := (rE w1 hw1).1; have r1 := (rE w1 hw1).2.1; have r2 := (rE w1 hw1).2.2; have r3 := (rF w1 hw1).1; have r4 := (rF w1 hw1).2.1; have r5 := (rF w1 hw1).2.2; have r6 := HQ.out.1; have r7 := HQ.out.2; have r8 := HP.out.1; have r9 := HP.out.2; go_simp; refine ⟨?_, ?_⟩ <;> with_reducible rfl); (first | (go_at_call 34; (with_reducible refine (ks w1 hw1).mono ?_); rintro e w2 ⟨rfl, hb⟩; refine ⟨?_, hb⟩; with_reducible rfl) | (go_at_call 34; (refine (ks w1 hw1).mono ?_); rintro e w2 ⟨rfl, hb⟩; refine ⟨?_, hb⟩; with_reducible rfl)); (simp only [Act.put, List.setIfInBounds_toArray, List.set_cons_zero, List.set_cons_succ])))
                  intro w10 hw10
                  simp only [List.drop_succ_cons, List.drop_zero]
                  have hb10 := hbk.trans (hw10.mono hbk.size)
                  clear rE rF kc ks hdr hdr9
                  go_wp2
                  go_roundw
                  case rel => exact ⟨k + 1, by omega, by go_num, hb10⟩
                  case measure => simp [intOf]; omega
                · have kc : ∀ w', Below wr.heap.size wr w' → Calls Tryd.prog 33 #[.agg #[.slice e.a e.n e.c, .string ⟨#[]⟩, .int .i64 e.k], .agg #[.slice f.a f.n f.c, .string ⟨#[]⟩, .int .i64 f.k]] w' fun e w'' => e = .returned (.int .i64 (1)) ∧ Below w'.heap.size w' w'' := fun w' h => by
                    have := kC w' h
                    rw [hC] at this
                    exact this
                  have ks : ∀ w', Below wr.heap.size wr w' → Calls Tryd.prog 34 #[.agg #[.slice e.a e.n e.c, .string ⟨#[]⟩, .int .i64 e.k], .agg #[.slice f.a f.n f.c, .string ⟨#[]⟩, .int .i64 f.k]] w' fun e w'' => e = .returned (.bool false) ∧ Below w'.heap.size w' w'' := fun w' h => by
                    have := kS w' h
                    rw [show decide ((e.bs, e.k) = (f.bs, f.k)) = false by simpa [Pf.is] using heq] at this
                    exact this
                  clear kC kS hC heq
                  have p1 : decide (j < k) = false ∧ decide ((j : Int) < (k : Int)) = false := by simp; omega
                  have HP := Lib.hid p1
                  clear p1 hjk
                  go_wp2_with fail
                  refine region_pick (Below wr.heap.size wr) [(0, false, none), (1, false, none), (2, false, none), (3, false, none), (4, false, none), (5, false, none), (6, false, none), (7, false, none), (8, false, none), (9, false, none)] 10 (by kernel_rfl) (by kernel_rfl) (fun w w' h hb => h.trans (hb.mono h.size)) (hdr) ?_
                  simp only [pickOps, List.getElem?_cons_zero, List.getElem?_cons_succ]
                  repeat (first | (refine t_skip rfl ?_; (simp only [Act.put, List.setIfInBounds_toArray, List.set_cons_zero, List.set_cons_succ])) | (refine t_run ?_ rfl (fun w1 hw1 => ?_) ?_; rotate_left; (have r0 := (rE w1 hw1).1; have r1 := (rE w1 hw1).2.1; have r2 := (rE w1 hw1).2.2; have r3 := (rF w1 hw1).1; have r4 := (rF w1 hw1).2.1; have r5 := (rF w1 hw1).2.2; have r6 := HQ.out.1; have r7 := HQ.out.2; go_simp; try (with_reducible rfl)); (simp only [Act.put, List.setIfInBounds_toArray, List.set_cons_zero, List.set_cons_succ])) | (refine t_call ?_ ?_ ?_ rfl (fun w1 hw1 => ?_) (fun w1 hw1 => ?_) ?_; rotate_left 3; (have r0 := (rE w1 hw1).1; have r1 := (rE w1 hw1).2.1; have r2 := (rE w1 hw1).2.2; have r3 := (rF w1 hw1).1; have r4 := (rF w1 hw1).2.1; have r5 := (rF w1 hw1).2.2; have r6 := HQ.out.1; have r7 := HQ.out.2; go_simp; refine ⟨?_, ?_⟩ <;> with_reducible rfl); (first | (go_at_call 33; (with_reducible refine (kc w1 hw1).mono ?_); rintro e w2 ⟨rfl, hb⟩; refine ⟨?_, hb⟩; with_reducible rfl) | (go_at_call 33; (refine (kc w1 hw1).mono ?_); rintro e w2 ⟨rfl, hb⟩; refine ⟨?_, hb⟩; with_reducible rfl)); (simp only [Act.put, List.setIfInBounds_toArray, List.set_cons_zero, List.set_cons_succ])))
                  intro w9 hw9
                  simp only [List.drop_succ_cons, List.drop_zero]
                  have hdr9 : Below wr.heap.size wr w9.drew := hw9.drew
                  go_wp2_with fail
                  refine region_pick (Below wr.heap.size wr) [(0, false, none), (1, false, none), (2, false, none), (3, false, none), (4, false, none), (5, false, none), (6, false, none), (7, false, none), (8, false, none), (9, false, none), (10, false, none), (11, false, none), (12, false, none), (13, false, none), (14, false, none), (15, false, none), (16, false, none), (17, false, none), (18, false, none), (19, false, none), (20, false, none), (21, false, none), (22, false, none), (23, false, none), (24, false, none), (25, false, none), (26, false, none), (27, false, none), (28, false, none), (29, false, none), (30, false, none), (31, false, none), (32, false, none), (33, false, none), (34, false, none), (35, false, none), (36, false, none), (37, false, none), (38, false, none), (39, false, none)] 40 (by kernel_rfl) (by kernel_rfl) (fun w w' h hb => h.trans (hb.mono h.size)) (hdr9) ?_
                  simp only [pickOps, List.getElem?_cons_zero, List.getElem?_cons_succ]
                  repeat (first | (refine t_skip rfl ?_; (simp only [Act.put, List.setIfInBounds_toArray, List.set_cons_zero, List.set_cons_succ])) | (refine t_run ?_ rfl (fun w1 hw1 => ?_) ?_; rotate_left; (have r0 := (rE w1 hw1).1; have r1 := (rE w1 hw1).2.1; have r2 := (rE w1 hw1).2.2; have r3 := (rF w1 hw1).1; have r4 := (rF w1 hw1).2.1; have r5 := (rF w1 hw1).2.2; have r6 := HQ.out.1; have r7 := HQ.out.2; have r8 := HP.out.1; have r9 := HP.out.2; go_simp; try (with_reducible rfl)); (simp only [Act.put, List.setIfInBounds_toArray, List.set_cons_zero, List.set_cons_succ])) | (refine t_call ?_ ?_ ?_ rfl (fun w1 hw1 => ?_) (fun w1 hw1 => ?_) ?_; rotate_left 3; (have r0 := (rE w1 hw1).1; have r1 := (rE w1 hw1).2.1; have r2 := (rE w1 hw1).2.2; have r3 := (rF w1 hw1).1; have r4 := (rF w1 hw1).2.1; have r5 := (rF w1 hw1).2.2; have r6 := HQ.out.1; have r7 := HQ.out.2; have r8 := HP.out.1; have r9 := HP.out.2; go_simp; refine ⟨?_, ?_⟩ <;> with_reducible rfl); (first | (go_at_call 34; (with_reducible refine (ks w1 hw1).mono ?_); rintro e w2 ⟨rfl, hb⟩; refine ⟨?_, hb⟩; with_reducible rfl) | (go_at_call 34; (refine (ks w1 hw1).mono ?_); rintro e w2 ⟨rfl, hb⟩; refine ⟨?_, hb⟩; with_reducible rfl)); (simp only [Act.put, List.setIfInBounds_toArray, List.set_cons_zero, List.set_cons_succ])))
                  intro w10 hw10
                  simp only [List.drop_succ_cons, List.drop_zero]
                  have hb10 := hbk.trans (hw10.mono hbk.size)
                  clear rE rF kc ks hdr hdr9
                  go_wp2
                  go_roundw
                  case rel => exact ⟨k + 1, by omega, by go_num, hb10⟩
                  case measure => simp [intOf]; omega
              · obtain rfl : k = L := by omega
                go_wp2
                go_roundw
                case rel => exact ⟨j + 1, by omega, by go_num, hbk⟩
                case measure => simp [intOf]; omega
          · obtain rfl : j = L := by omega
            have hbw9 := hbw6.trans (hbj.mono hbw6.size)
            go_wp2
            go_returns
            exact ⟨rfl, hbw9⟩
end Go.Proofs.YtckfgdohpmllmaaDoor
