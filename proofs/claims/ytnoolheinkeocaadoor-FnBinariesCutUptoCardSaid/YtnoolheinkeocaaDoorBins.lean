/-
  The walk of laws.FnBinariesCut.
-/
import Derived.Test.YtnoolheinkeocaaDoorScr
import Derived.Test.YtnoolheinkeocaaDoorBin
import Derived.Test.YtnoolheinkeocaaDoorSame
import Derived.Test.YtnoolheinkeocaaDoorPeR
import Derived.Test.YtnoolheinkeocaaDoorRegion3
namespace Go.Proofs.YtnoolheinkeocaaDoor
open Go Go.RowKit
theorem madeZ_le (l : List (List UInt8 × UInt8)) : (madeZ l).length ≤ l.length := by
  unfold madeZ; rw [List.length_map]; exact List.length_filter_le _ _
theorem samePf_eq (A B : Option Addr) (n m c d : Nat) (bs : List UInt8) (k : Nat) (w : World) (h1 : RB w A n bs) (h2 : RB w B m bs) (hn : n ≤ 9223372036854775807) :
    Calls Tryd.prog 11 #[.agg #[.slice A n c, .string ⟨#[]⟩, .int .i64 k], .agg #[.slice B m d, .string ⟨#[]⟩, .int .i64 k]] w fun e w' => e = .returned (.bool true) ∧ Below w.heap.size w w' := by
  have := samePf_c A B n m c d bs bs k k w h1 h2 hn
  rwa [show decide ((bs, k) = (bs, k)) = true from decide_eq_true rfl] at this
theorem infoStep : (Tryd.prog.info? 44).map (fun i => (i.zero, i.size, i.bytes)) = some (some (.agg #[.bool false, .slice none 0 0]), 2, 32) := by kernel_rfl
theorem RB.sub {w : World} {g o n : Nat} {l : List UInt8} (h : RB w (some ⟨g, o, none⟩) n l) (a m : Nat) (ham : a + m ≤ n) : RB w (some ⟨g, o + a, none⟩) m ((l.drop a).take m) := by
  have hln := h.1
  refine ⟨by simp; omega, fun hm => ⟨g, o + a, rfl, ?_, fun i hi => ?_⟩⟩
  · obtain ⟨g', o', e, hg, -⟩ := h.2 (by omega)
    injection e with e
    injection e with e1 e2
    subst e1
    exact hg
  · obtain ⟨g', o', e, -, hc⟩ := h.2 (by omega)
    injection e with e
    injection e with e1 e2
    subst e1 e2
    have h1 := hc (a + i) (by omega)
    rw [Nat.add_assoc, h1]
    have h2 : a + i < l.length := by omega
    have h3 : i < ((l.drop a).take m).length := by simp; omega
    simp [List.getD, h2, List.getElem?_drop, hi]
theorem RB.head {w : World} {A : Option Addr} {n : Nat} {l : List UInt8} (h : RB w A n l) (a : Nat) (ha : a ≤ n) : RB w A a (l.take a) := by
  have hln := h.1
  refine ⟨by simp; omega, fun hm => ?_⟩
  obtain ⟨g, o, e, hg, hc⟩ := h.2 (by omega)
  refine ⟨g, o, e, hg, fun i hi => ?_⟩
  rw [hc i (by omega)]
  simp [List.getD, hi]
/-- Where the bytes of prefix j begin. -/
def binAt (es : List Pf) (j : Nat) : Nat := ((es.take j).map fun e => pfB e.is).flatten.length
theorem binAt_succ {es : List Pf} {j : Nat} {e : Pf} (h : es[j]? = some e) : binAt es (j + 1) = binAt es j + (e.bs.length + 1) := by
  unfold binAt
  rw [List.take_add_one, h]
  simp [pfB, Pf.is]
theorem binAt_mono (es : List Pf) (j : Nat) : binAt es j ≤ (es.map fun e => pfB e.is).flatten.length := by
  unfold binAt
  conv => rhs; rw [← List.take_append_drop j es]
  rw [List.map_append, List.flatten_append, List.length_append]
  omega
theorem binAt_cut {es : List Pf} {j : Nat} {e : Pf} (h : es[j]? = some e) (rs : List UInt8) : ((rs ++ (es.map fun e => pfB e.is).flatten).drop (rs.length + binAt es j)).take (e.bs.length + 1) = pfB e.is := by
  have hj : j < es.length := (List.getElem?_eq_some_iff.1 h).1
  have h1 : (es.map fun e => pfB e.is).flatten = ((es.take j).map fun e => pfB e.is).flatten ++ (pfB e.is ++ ((es.drop (j + 1)).map fun e => pfB e.is).flatten) := by
    conv => lhs; rw [← List.take_append_drop j es]
    have : es.drop j = e :: es.drop (j + 1) := by
      rw [List.drop_eq_getElem_cons hj]
      rw [List.getElem?_eq_getElem hj] at h
      injection h with h
      rw [h]
    rw [this]
    simp
  rw [h1, ← List.append_assoc, ← List.append_assoc]
  have h2 : rs.length + binAt es j = (rs ++ ((es.take j).map fun e => pfB e.is).flatten).length := by unfold binAt; rw [List.length_append]
  rw [List.append_assoc, h2, List.drop_left]
  have h3 : e.bs.length + 1 = (pfB e.is).length := by unfold pfB; rw [List.length_append]; rfl
  rw [h3, List.take_left]
theorem binAt_le {es : List Pf} (hv : ∀ e ∈ es, Vp e.is) : ∀ j, binAt es j ≤ 17 * j := by
  intro j
  induction j with
  | zero => simp [binAt]
  | succ j ih =>
    cases he : es[j]? with
    | none =>
      have hl : es.length ≤ j := List.getElem?_eq_none_iff.1 he
      unfold binAt at *
      rw [List.take_of_length_le (by omega)] at *
      omega
    | some e =>
      rw [binAt_succ he]
      have := (hv e (List.mem_of_getElem? he)).1
      unfold isLen at this
      simp only [Pf.is] at this
      omega
set_option maxRecDepth 100000 in
set_option maxHeartbeats 32000000 in
theorem bins_walk (R : Option Addr) (rn rc : Nat) (rs : List UInt8) (A : Option Addr) (n c : Nat) (es0 : List En) (B : Option Addr) (m d : Nat) (xs : List UInt8) (z : ZP) (w : World) (hz : Zs w z) (hr : RB w R rn rs) (hR : R = none → rn = 0 ∧ rc = 0) (hrn : rn ≤ 1048576) (hl : RS w A n es0) (hn : n ≤ 1048576) (hx : RB w B m xs) (hm : m ≤ 140737488355328) :
    Calls Tryd.prog 4 #[.slice R rn rc, .slice A n c, .slice B m d] w fun e w' => e = .returned (.bool true) ∧ Below w.heap.size w w' := by
  have hval := madeZ_valid ((es0.map (·.bs)).zip xs)
  have hmlen : (madeZ ((es0.map (·.bs)).zip xs)).length ≤ n := Nat.le_trans (madeZ_le _) (by rw [List.length_zip, List.length_map, hl.1]; omega)
  obtain ⟨i0, hi, hz0, hz1, hz2⟩ := info_parts infoStep
  go_enter Tryd.func4, Tryd.ntmps4
  go_wp2_with fail
  refine (made_c A n c es0 B m d xs w hl (by omega) hx (by omega)).mono ?_
  rintro e0 w1 ⟨v1, rfl, ⟨A1, c1, es, rfl, hown, hmap, hin⟩, hb1⟩
  rw [← hmap] at hval hmlen
  rw [List.length_map] at hmlen
  have hrp := RP.of_own hown rfl hin
  have hz1' := hz.keep hb1
  have hv : ∀ e ∈ es, Vp e.is := fun e he => hval e.is (List.mem_map_of_mem he)
  have hr1 := hr.keep hb1
  clear hown hmap hin hval
  obtain ⟨N, hN⟩ : ∃ N, N = es.length := ⟨_, rfl⟩
  rw [← hN] at hrp hmlen ⊢
  have HV := Lib.hid (And.intro hv hN)
  clear hN
  go_wp2_with fail
  refine (pfBinaries_c R rn rc rs A1 N c1 es z w1 hz1' hr1 hR (by omega) hrp hv (by omega)).mono ?_
  rintro e0 w2 ⟨v2, rfl, h2⟩
  obtain ⟨A2, c2, rfl⟩ := h2.slice
  have hcap : (rs ++ (es.map fun e => pfB e.is).flatten).length ≤ c2 := by
    rcases h2.own.2 with ⟨hv, h0⟩ | ⟨g, cap, cur, fz, hv, -, -, -, hl, -⟩
    · omega
    · injection hv with _ _ hv; rw [hv]; exact hl
  have hr2 := h2.rb
  have hb2 := h2.low
  have hbw := hb1.trans (hb2.mono hb1.size)
  have hrp2 := hrp.keep hb2
  have hz2' := hz.keep hbw
  have hrs2 := hr.keep hbw
  have hbl : (rs ++ (es.map fun e => pfB e.is).flatten).length = rn + binAt es N := by
    rw [List.length_append, hr.1, binAt, List.take_of_length_le (by have := HV.out.2; omega)]
  have hble := binAt_le hv N
  obtain ⟨an, han⟩ : ∃ an, an = (rs ++ (es.map fun e => pfB e.is).flatten).length := ⟨_, rfl⟩
  rw [← han] at hcap hr2 hbl ⊢
  have HW := Lib.hid (And.intro hr2 (And.intro hrp2 (And.intro hz2' (And.intro hrs2 hbw))))
  have hra : rn ≤ an := by omega
  have han2 : an ≤ rn + 17 * N := by omega
  have HBL := Lib.hid hbl
  clear h2 hb2 hrp hr1 hz1' hv han hbl
  go_wp2_with fail
  have hh := hr2.head rn hra
  have hrl := hr.1
  rw [show (rs ++ (es.map fun e => pfB e.is).flatten).take rn = rs by rw [← hrl, List.take_left]] at hh
  refine (equal_c A2 R rn rn c2 rc rs rs w2 hh hrs2 (by omega)).mono ?_
  rintro e3 w3 ⟨rfl, hb3⟩
  rw [show decide (rs = rs) = true from decide_eq_true rfl]
  have HB3 := Lib.hid (And.intro (hr2.keep hb3) (And.intro (hrp2.keep hb3) (And.intro (hz2'.keep hb3) (hbw.trans (hb3.mono hbw.size)))))
  have hrp3 := hrp2.keep hb3
  clear hb3 hrs2 hr2 HW hh hz2' hbw hrp2
  go_wp2_with fail
  go_loopw [10, 11, 49] (fun v10 v11 i wr => ∃ (j : Nat) (ss : List St), j ≤ N ∧ i = .int .i64 j ∧ v10 = .int .i64 ((rn + binAt es j : Nat) : Int) ∧ ss.length = j ∧ Hid (ss.map (·.p) = (es.take j).map Pf.is) ∧ Hid (wr.ownsRow w3.heap.size 44 2 v11 j (stCells ss)) ∧ Hid (∀ s ∈ ss, StepOk w3 s) ∧ Hid (Below w3.heap.size w3 wr)) (fun _ _ i _ => N - (intOf i).toNat)
  case atStart => exact ⟨0, [], Nat.zero_le _, rfl, rfl, rfl, rfl, Lib.hid (World.ownsRow_nil _ _ _ _), Lib.hid (fun s hs => (by simp at hs)), Lib.hid (Below.refl _ _)⟩
  case round =>
    obtain ⟨j, ss, hj, rfl, rfl, hsl, hmp, hown, hok, hbb⟩ := hrel
    by_cases hlt : j < N
    · obtain ⟨g, o, e, hA, hg, hek, hc0, hc1, hc2, hbe⟩ := (hrp3.keep hbb.out).at hlt
      subst hA
      have hve := HV.out.1 e (List.mem_of_getElem? hek)
      have hel : e.bs.length = e.n := hbe.1
      have hen : e.n ≤ 16 := by have := hve.1; unfold isLen at this; simp only [Pf.is] at this; omega
      have hbs := binAt_succ hek
      have hbm := binAt_mono es (j + 1)
      have hcut := binAt_cut hek rs
      have hbN : binAt es N = (es.map fun e => pfB e.is).flatten.length := by unfold binAt; rw [List.take_of_length_le (by have := HV.out.2; omega)]
      have hbl := HBL.out
      have hq : rn + binAt es j + (e.n + 1) ≤ an := by omega
      obtain ⟨g2, o2, hA2, hg2, -⟩ := HB3.out.1.2 (by omega)
      subst hA2
      have hsub := HB3.out.1.sub (rn + binAt es j) (e.n + 1) (by omega)
      rw [← hr.1, ← hel, hcut, hel, hr.1] at hsub
      obtain ⟨q, hqq⟩ : ∃ q, q = rn + binAt es j := ⟨_, rfl⟩
      rw [← hqq] at hsub hq ⊢
      have hq2 : rn + binAt es (j + 1) = q + (e.n + 1) := by omega
      have hszt := hbb.out.size
      have HE := Lib.hid (And.intro hek (And.intro hsub (And.intro hq2 hqq)))
      have hxa : Below wr.heap.size wr (wr.alloc (.cells #[.slice e.a e.n e.c, .string ⟨#[]⟩, .int .i64 e.k] 35)) := (Below.refl _ _).alloc (Nat.le_refl _) _
      have ho1 := own_below hown.out hxa
      have hb1x := hbb.out.trans (hxa.mono hbb.out.size)
      have HX := Lib.hid (And.intro ho1 hb1x)
      clear hek hbs hbm hcut hbN hbl hsub hqq hq2 hbe hxa ho1 hb1x
      go_wp2_with ((at_builtin; refine append1 rfl _ _ 42 rfl (w3.heap.size) 44 i0 (.agg #[.bool false, .slice none 0 0]) 2 32 Tryd.underlying42 hi hz0 hz1 hz2 rfl (by decide) _ _ _ rfl (HX.out.1) _ _ [.bool true, .slice (some ⟨g2, o2 + q, none⟩) (e.n + 1) (c2 - q)] rfl (by simp) rfl rfl (by unfold maxLen; omega) (by omega) (by first | omega | (simp; omega)) ?_))
      intro v6 w6 hown6 hgr6
      have hxb : Below (wr.alloc (.cells #[.slice e.a e.n e.c, .string ⟨#[]⟩, .int .i64 e.k] 35)).heap.size (wr.alloc (.cells #[.slice e.a e.n e.c, .string ⟨#[]⟩, .int .i64 e.k] 35)) ((wr.alloc (.cells #[.slice e.a e.n e.c, .string ⟨#[]⟩, .int .i64 e.k] 35)).alloc (.cells #[.bool true, .slice (some ⟨g2, o2 + q, none⟩) (e.n + 1) (c2 - q)] 44)) := (Below.refl _ _).alloc (Nat.le_refl _) _
      have hb6 : Below w3.heap.size w3 w6 := (HX.out.2.trans (hxb.mono HX.out.2.size)).grown hgr6 (Nat.le_trans HX.out.2.size hxb.size) (own_row_ge HX.out.1)
      have ho6 : w6.ownsRow w3.heap.size 44 2 v6 (j + 1) (stCells (ss ++ [⟨true, some ⟨g2, o2 + q, none⟩, e.n + 1, c2 - q, e.is⟩])) := by rw [stCells_append]; exact hown6
      have hok6 : ∀ s ∈ ss ++ [(⟨true, some ⟨g2, o2 + q, none⟩, e.n + 1, c2 - q, e.is⟩ : St)], StepOk w3 s := fun s hs => by
        rcases List.mem_append.1 hs with hs | hs
        · exact hok.out s hs
        · simp only [List.mem_singleton] at hs
          subst hs
          exact ⟨hve, fun _ => ⟨HE.out.2.1, by show e.n + 1 ≤ c2 - q; omega⟩, fun h => (by cases h)⟩
      have hm6 : (ss ++ [(⟨true, some ⟨g2, o2 + q, none⟩, e.n + 1, c2 - q, e.is⟩ : St)]).map (·.p) = (es.take (j + 1)).map Pf.is := by
        rw [List.map_append, hmp.out, List.take_add_one, HE.out.1]; simp
      have hl6 : (ss ++ [(⟨true, some ⟨g2, o2 + q, none⟩, e.n + 1, c2 - q, e.is⟩ : St)]).length = j + 1 := by rw [List.length_append, hsl]; rfl
      generalize ss ++ [(⟨true, some ⟨g2, o2 + q, none⟩, e.n + 1, c2 - q, e.is⟩ : St)] = ss6 at *
      have G1 := Lib.hid ho6
      have G2 := Lib.hid hok6
      have G3 := Lib.hid hm6
      have G4 := Lib.hid hb6
      clear hown6 hgr6 hxb hb6 ho6 hok6 hm6 hc0 hc1 hc2 HX hown hok hmp hbb
      go_wp2
      go_roundw
      case rel => exact ⟨j + 1, ss6, by omega, by go_num, by rw [HE.out.2.2.1]; go_num, hl6, G3, G1, G2, G4⟩
      case measure => simp [intOf]; omega
    · obtain rfl : j = N := by omega
      have hbl := HBL.out
      rw [← hbl]
      obtain ⟨A6, c6, rfl⟩ := own_slice hown.out
      have hmp2 : ss.map (fun s => (some s.p : Out)) = es.map fun e => (some e.is : Out) := by
        have h1 := hmp.out
        rw [List.take_of_length_le (by have := HV.out.2; omega)] at h1
        have h2 := congrArg (List.map (fun p => (some p : Out))) h1
        rw [List.map_map, List.map_map] at h2
        exact h2
      have hst : RSt wr A6 j ss := ⟨hsl, RC.of_own hown.out, fun s hs => (hok.out s hs).keep hbb.out⟩
      have hps := pfScript_c A6 j c6 ss z wr (HB3.out.2.2.1.keep hbb.out) hst (by omega)
      rw [hmp2] at hps
      have HPS := Lib.hid (And.intro hps (And.intro (HB3.out.2.1.keep hbb.out) (HB3.out.2.2.2.trans (hbb.out.mono HB3.out.2.2.2.size))))
      clear hbl hmp hmp2 hst hps hok hown hbb hrp3 HB3
      go_wp2_with fail
      refine HPS.out.1.mono ?_
      rintro e5 w7 ⟨A7, c7, fs, rfl, hown7, hmap7, hin7, hb7⟩
      have hfl : fs.length = j := by have := congrArg List.length hmap7; simp at this; have := HV.out.2; omega
      rw [hfl] at hown7 ⊢
      have hre := RE.of_own hown7 hfl hin7
      have H9 := Lib.hid (And.intro hre (And.intro (HPS.out.2.1.keep hb7) (HPS.out.2.2.trans (hb7.mono HPS.out.2.2.size))))
      have HF := Lib.hid (And.intro hmap7 True.intro)
      clear hmap7 hown7 hin7 hb7 hre HPS
      obtain ⟨w9, hw9⟩ : ∃ w9, w9 = w7 := ⟨_, rfl⟩
      rw [← hw9] at H9 ⊢
      clear hw9
      obtain ⟨k, rfl⟩ : ∃ k, k = j := ⟨_, rfl⟩
      have hbw : Below w.heap.size w w := Below.refl _ _
      go_wp2_with fail
      go_loopw [93] (fun i wr => ∃ s : Nat, i = .int .i64 s ∧ s ≤ k ∧ Hid (Below w9.heap.size w9 wr)) (fun i _ => k - (intOf i).toNat)
      case atStart => exact ⟨0, rfl, Nat.zero_le _, Lib.hid (Below.refl _ _)⟩
      case round =>
        obtain ⟨s, rfl, hs, hbb⟩ := hrel
        by_cases hsk : s < k
        · obtain ⟨g1, o1, f, hA, hg1, hfs, hc0, hc1, hc2, hc3, hbf⟩ := (H9.out.1.keep hbb.out).at hsk
          subst hA
          obtain ⟨g2, o2, e, hA, hg2, hes, hd0, hd1, hd2, hbe⟩ := (H9.out.2.1.keep hbb.out).at hsk
          subst hA
          have hfo : f.is = Out.is (some e.is) := by
            have h1 := congrArg (fun l => l[s]?) HF.out.1
            simp only [List.getElem?_map, hfs, hes, Option.map_some, Option.some.injEq] at h1
            exact h1
          obtain ⟨f1, f2, f3⟩ := Pe.of_out hfo
          have f1' : f.bs = e.bs := f1
          have f2' : f.k = (e.k : Int) := f2
          have f3' : f.ok = true := f3
          rw [f1'] at hbf
          rw [f2'] at hc2
          rw [f3'] at hc3
          have hve := HV.out.1 e (List.mem_of_getElem? hes)
          have hfn : f.n ≤ 9223372036854775807 := by have := hbf.1; have h2 := hve.1; unfold isLen at h2; simp only [Pf.is] at h2; omega
          have hxa : Below wr.heap.size wr (wr.alloc (.cells #[.slice f.a f.n f.c, .string ⟨#[]⟩, .int .i64 e.k, .bool true] 37)) := (Below.refl _ _).alloc (Nat.le_refl _) _
          have hbox : Blk (wr.alloc (.cells #[.slice f.a f.n f.c, .string ⟨#[]⟩, .int .i64 e.k, .bool true] 37)) wr.heap.size 37 #[.slice f.a f.n f.c, .string ⟨#[]⟩, .int .i64 e.k, .bool true] := heap_alloc_new _ _
          obtain ⟨gx, hgx⟩ : ∃ gx, gx = wr.heap.size := ⟨_, rfl⟩
          have hb9x := hbb.out.trans (hxa.mono hbb.out.size)
          have c0 := (hxa.cell (p := ⟨g2, o2 + s * 3, none⟩) hg2).trans hd0
          have c1x := (hxa.cell (p := ⟨g2, o2 + s * 3 + 1, none⟩) hg2).trans hd1
          have c2x := (hxa.cell (p := ⟨g2, o2 + s * 3 + 2, none⟩) hg2).trans hd2
          have hg2x := Nat.lt_of_lt_of_le hg2 hxa.size
          have HX := Lib.hid (And.intro hgx (And.intro hbox (And.intro hb9x (And.intro (hbf.keep hxa) (And.intro (hbe.keep hxa) (And.intro c0 (And.intro c1x (And.intro c2x hg2x))))))))
          clear hgx hbox hxa hb9x hbf hbe c0 c1x c2x hg2x hfo f1 f2 f3 f1' f2' f3' hfs hes hd0 hd1 hd2
          go_wp2_with fail
          obtain ⟨hgx, hbox, hb9x, hbf, hbe, c0, c1x, c2x, hg2x⟩ := HX.out
          rw [← hgx] at hbox ⊢
          clear HX hc0 hc1 hc2 hc3 hgx
          generalize wr.alloc (.cells #[.slice f.a f.n f.c, .string ⟨#[]⟩, .int .i64 e.k, .bool true] 37) = w10 at *
          have hdr : Below w10.heap.size w10 w10.drew := ⟨rfl, rfl, rfl, Nat.le_refl _, fun _ _ => rfl⟩
          have lx := hbox.lt
          have rX : ∀ w', Below w10.heap.size w10 w' → ∀ i, w'.cell? ⟨gx, i, none⟩ = #[Value.slice f.a f.n f.c, .string ⟨#[]⟩, .int .i64 e.k, .bool true][i]? := fun w' h i => (h.cell (p := ⟨gx, i, none⟩) lx).trans (hbox.cell i)
          have q1 : (0 : Int) ≤ s ∧ (s : Int) < k := by omega
          have HQ := Lib.hid q1
          clear q1
          refine region_pick (Below w10.heap.size w10) [(0, false, none), (1, false, none), (2, false, none), (3, false, none), (4, false, none), (5, false, none), (6, false, none), (7, false, none), (8, false, none), (9, false, none), (10, false, none), (11, false, none), (12, false, none)] 13 (by kernel_rfl) (by kernel_rfl) (fun w w' h hb => h.trans (hb.mono h.size)) (hdr) ?_
          simp only [pickOps, List.getElem?_cons_zero, List.getElem?_cons_succ]
          repeat (first | (refine t_skip rfl ?_; (simp only [Act.put, List.setIfInBounds_toArray, List.set_cons_zero, List.set_cons_succ])) | (refine t_run ?_ rfl (fun w1 hw1 => ?_) ?_; rotate_left; (have r0 := rX w1 hw1; have r1 := HQ.out; have r2 := (hw1.cell (p := ⟨g2, o2 + s * 3, none⟩) hg2x).trans c0; have r3 := (hw1.cell (p := ⟨g2, o2 + s * 3 + 1, none⟩) hg2x).trans c1x; have r4 := (hw1.cell (p := ⟨g2, o2 + s * 3 + 2, none⟩) hg2x).trans c2x; go_simp; try (with_reducible rfl)); (simp only [Act.put, List.setIfInBounds_toArray, List.set_cons_zero, List.set_cons_succ])) | (refine t_call ?_ ?_ ?_ rfl (fun w1 hw1 => ?_) (fun w1 hw1 => ?_) ?_; rotate_left 3; (have r0 := rX w1 hw1; have r1 := HQ.out; have r2 := (hw1.cell (p := ⟨g2, o2 + s * 3, none⟩) hg2x).trans c0; have r3 := (hw1.cell (p := ⟨g2, o2 + s * 3 + 1, none⟩) hg2x).trans c1x; have r4 := (hw1.cell (p := ⟨g2, o2 + s * 3 + 2, none⟩) hg2x).trans c2x; go_simp; refine ⟨?_, ?_⟩ <;> with_reducible rfl); (first | (go_at_call 11; (with_reducible refine (samePf_eq f.a e.a f.n e.n f.c e.c e.bs e.k w1 (hbf.keep hw1) (hbe.keep hw1) hfn).mono ?_); rintro e w2 ⟨rfl, hb⟩; refine ⟨?_, hb⟩; with_reducible rfl) | (go_at_call 11; (refine (samePf_eq f.a e.a f.n e.n f.c e.c e.bs e.k w1 (hbf.keep hw1) (hbe.keep hw1) hfn).mono ?_); rintro e w2 ⟨rfl, hb⟩; refine ⟨?_, hb⟩; with_reducible rfl)); (simp only [Act.put, List.setIfInBounds_toArray, List.set_cons_zero, List.set_cons_succ])))
          intro w11 hw11
          simp only [List.drop_succ_cons, List.drop_zero]
          have HB := Lib.hid (hb9x.trans (hw11.mono hb9x.size))
          clear rX hdr hbox hbf hbe c0 c1x c2x hg2x
          go_wp2
          go_roundw
          case rel => exact ⟨s + 1, by go_num, by omega, HB⟩
          case measure => simp [intOf]; omega
        · obtain rfl : s = k := by omega
          have hb2 := H9.out.2.2.trans (hbb.out.mono H9.out.2.2.size)
          have hbF := hbw.trans (hb2.mono hbw.size)
          have HB := Lib.hid hbF
          clear hb2 hbF
          go_wp2
          go_returns
          exact ⟨rfl, HB.out⟩
end Go.Proofs.YtnoolheinkeocaaDoor
