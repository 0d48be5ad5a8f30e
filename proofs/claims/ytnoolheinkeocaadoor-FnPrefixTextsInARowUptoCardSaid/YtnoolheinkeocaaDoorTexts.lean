/-
  The walk of laws.FnPrefixTextsInARow.
-/
import Derived.Test.YtnoolheinkeocaaDoorLines
import Derived.Test.YtnoolheinkeocaaDoorTwo
import Derived.Test.YtnoolheinkeocaaDoorSame
import Derived.Test.YtnoolheinkeocaaDoorPeR
import Derived.Test.YtnoolheinkeocaaDoorStrs
import Derived.Test.YtnoolheinkeocaaDoorRegion3
namespace Go.Proofs.YtnoolheinkeocaaDoor
open Go Go.RowKit
theorem madeZ_le (l : List (List UInt8 × UInt8)) : (madeZ l).length ≤ l.length := by
  unfold madeZ; rw [List.length_map]; exact List.length_filter_le _ _
theorem full_reads (p : List UInt8 × Nat) (hp : Vp p) (z : ZP) (w0 : World) (hz : Zs w0 z) : Reads z w0 ⟨(pfT p).toArray⟩ (some p) := by
  have h37 := ad_no hp.1 (c := 37) (by decide) (by decide) (by decide)
  have hpa := Tx.pA_ad hp.1
  have hle := pfT_le p hp.1
  have h128 : p.2 ≤ 128 := by have := hp.2; rcases hp.1 with h | h <;> rw [h] at this <;> omega
  have hsz : (⟨(pfT p).toArray⟩ : ByteArray).size ≤ 4611686018427387904 := by
    show (pfT p).toArray.size ≤ _
    simp; omega
  refine ⟨fun q hq => (by injection hq with hq; subst hq; exact hp), fun w hb => ?_⟩
  exact parsePf_c _ (Tx.adT p.1) p.1 p.2 z w (hz.keep hb) hsz rfl h37 hpa hp.1 hp.2
theorem samePf_eq (A B : Option Addr) (n m c d : Nat) (bs : List UInt8) (k : Nat) (w : World) (h1 : RB w A n bs) (h2 : RB w B m bs) (hn : n ≤ 9223372036854775807) :
    Calls Tryd.prog 11 #[.agg #[.slice A n c, .string ⟨#[]⟩, .int .i64 k], .agg #[.slice B m d, .string ⟨#[]⟩, .int .i64 k]] w fun e w' => e = .returned (.bool true) ∧ Below w.heap.size w w' := by
  have := samePf_c A B n m c d bs bs k k w h1 h2 hn
  rwa [show decide ((bs, k) = (bs, k)) = true from decide_eq_true rfl] at this
set_option maxRecDepth 100000 in
set_option maxHeartbeats 32000000 in
theorem texts_walk (R : Option Addr) (rn rc : Nat) (rs : List UInt8) (A : Option Addr) (n c : Nat) (es0 : List En) (B : Option Addr) (m d : Nat) (xs : List UInt8) (z : ZP) (w : World) (hz : Zs w z) (hr : RB w R rn rs) (hR : R = none → rn = 0 ∧ rc = 0) (hrn : rn ≤ 1048576) (hl : RS w A n es0) (hn : n ≤ 1048576) (hx : RB w B m xs) (hm : m ≤ 140737488355328) :
    Calls Tryd.prog 3 #[.slice R rn rc, .slice A n c, .slice B m d] w fun e w' => e = .returned (.bool true) ∧ Below w.heap.size w w' := by
  have hval := madeZ_valid ((es0.map (·.bs)).zip xs)
  have hmlen : (madeZ ((es0.map (·.bs)).zip xs)).length ≤ n := Nat.le_trans (madeZ_le _) (by rw [List.length_zip, List.length_map, hl.1]; omega)
  obtain ⟨i0, hi, hz0, hz1, hz2⟩ := info_parts infoU8
  go_enter Tryd.func3, Tryd.ntmps3
  go_wp2_with fail
  refine (made_c A n c es0 B m d xs w hl (by omega) hx (by omega)).mono ?_
  rintro e0 w1 ⟨v1, rfl, ⟨A1, c1, es, rfl, hown, hmap, hin⟩, hb1⟩
  rw [← hmap] at hval hmlen
  rw [List.length_map] at hmlen
  have hrp := RP.of_own hown rfl hin
  have hz1' := hz.keep hb1
  have hv : ∀ e ∈ es, Vp e.is := fun e he => hval e.is (List.mem_map_of_mem he)
  clear hown hmap hin hval
  obtain ⟨N, hN⟩ : ∃ N, N = es.length := ⟨_, rfl⟩
  rw [← hN] at hrp hmlen ⊢
  have HV := Lib.hid (And.intro hv hN)
  clear hN
  go_wp2_with fail
  refine (pfStrings_c A1 N c1 es z w1 hz1' hrp hv (by omega)).mono ?_
  rintro e0 w2 ⟨A2, c2, rfl, hown2, hb2⟩
  have hbw := hb1.trans (hb2.mono hb1.size)
  have hr2 := hr.keep hbw
  have hrp2 := hrp.keep hb2
  have hrc2 : RC w2 A2 ((es.map fun e => pfT e.is).map sV) := RC.of_own hown2
  have hz2' := hz.keep hbw
  have HW := Lib.hid (And.intro hbw (And.intro hrp2 (And.intro hz2' hr2)))
  clear hown2 hb1 hb2 hrp hz1' hv
  go_wp2_with (at_builtin; (refine app_copyO (B := w2.heap.size) (W0 := w2) i0 hi hz0 hz1 hz2 rfl _ _ rfl rfl R rn rc hr2 hR (by omega) rfl (Nat.le_refl _) (Below.refl _ _) ?_; intro v3 w3 hown3 hb3))
  have hT3 := Two.start w3 w2.heap.size hb3.size hown3
  have HT3 := Lib.hid (And.intro hT3 hb3)
  clear hown3 hb3 hT3 hr2
  go_wp2_with fail
  obtain ⟨TS, hTS⟩ : ∃ TS, TS = es.map fun e => pfT e.is := ⟨_, rfl⟩
  rw [← hTS] at hrc2
  have hTl : TS.length = N := by rw [hTS, List.length_map]; exact HV.out.2.symm
  have hT86 : ∀ t ∈ TS, t.length ≤ 86 := fun t ht => by
    rw [hTS] at ht
    obtain ⟨e, he, rfl⟩ := List.mem_map.1 ht
    exact pfT_le e.is (HV.out.1 e he).1
  have hT10 : ∀ t ∈ TS, (10 : UInt8) ∉ t := fun t ht => by
    rw [hTS] at ht
    obtain ⟨e, he, rfl⟩ := List.mem_map.1 ht
    exact pfT_no10 (HV.out.1 e he)
  have HTS := Lib.hid (And.intro hTS (And.intro hTl (And.intro hT86 hT10)))
  have HRC := Lib.hid hrc2
  clear hTS hT86 hT10 hrc2
  go_loopw [9, 10, 34] (fun v9 v10 i wr => ∃ (j : Nat) (l1 l2 : List UInt8), j ≤ N ∧ i = .int .i64 j ∧ Hid (Two w2.heap.size wr v9 l1 v10 l2) ∧ Hid (Below w2.heap.size w2 wr) ∧ Hid (l1 = rs ++ (TS.take j).flatten ∧ l2 = linesT (TS.take j)) ∧ l1.length ≤ rn + 86 * j ∧ l2.length ≤ 87 * j) (fun _ _ i _ => N - (intOf i).toNat)
  case atStart => exact ⟨0, rs, [], Nat.zero_le _, rfl, Lib.hid HT3.out.1, Lib.hid HT3.out.2, Lib.hid ⟨by simp, rfl⟩, by have := HW.out.2.2.2.1; omega, by simp⟩
  case round =>
    obtain ⟨j, l1, l2, hj, rfl, htw, hbb, htx, hle1, hle2⟩ := hrel
    by_cases hlt : j < N
    · obtain ⟨t, htj⟩ : ∃ t, TS[j]? = some t := ⟨_, List.getElem?_eq_getElem (by omega)⟩
      obtain ⟨g, o, hA, hg, hc⟩ := (HRC.out.keep hbb.out) (by rw [List.length_map]; omega)
      have hcj := hc j (sV t) (by rw [List.getElem?_map, htj]; rfl)
      subst hA
      have h86 := HTS.out.2.2.1 t (List.mem_of_getElem? htj)
      obtain ⟨S, hS⟩ : ∃ S : ByteArray, S = ⟨t.toArray⟩ := ⟨_, rfl⟩
      have hSl : S.data.toList = t := by rw [hS]
      have hSs : S.size = t.length := by rw [← str_len, hSl]
      unfold sV at hcj
      rw [← hS] at hcj
      have htk1 : (TS.take (j + 1)).flatten = (TS.take j).flatten ++ t := by rw [List.take_add_one, htj]; simp
      have htk2 := linesT_take htj
      have HK := Lib.hid (And.intro htk1 (And.intro htk2 hSl))
      clear hS hSl htk1 htk2 htj hc
      have h1 := htw.out
      have b1 := hbb.out
      go_wp2_with (first
        | (at_builtin; refine app_str1 i0 hi hz0 hz1 hz2 rfl _ _ rfl rfl S h1 rfl (by omega) ?_; intro v4 w4 h4 g4; have b4 := h1.low g4 b1; have h4s := h4.symm; clear h1 h4 g4 hcj hg)
        | (at_builtin; refine app_str1 i0 hi hz0 hz1 hz2 rfl _ _ rfl rfl S h4s rfl (by omega) ?_; intro v5 w5 h5 g5; have b5 := h4s.low g5 b4; clear h4s g5 b4)
        | (at_builtin; refine app_byte1 i0 hi hz0 hz1 hz2 rfl _ _ rfl rfl 10 _ rfl h5 rfl (by rw [List.length_append, Array.length_toList]; show l2.length + S.size + 1 ≤ _; omega) ?_; intro v6 w6 h6 g6; have b6 := (h5.below ((Below.refl _ _).alloc (Nat.le_refl _) (.cells #[.int .u8 (10 : Int)] 5))).low g6 (b5.trans (((Below.refl _ _).alloc (Nat.le_refl _) (.cells #[.int .u8 (10 : Int)] 5)).mono b5.size)); have H6 := Lib.hid (And.intro h6.symm b6); clear h5 h6 g6 b5 b6))
      go_roundw
      case rel =>
        have hx := htx.out
        have hk := HK.out
        exact ⟨j + 1, _, _, by omega, by go_num, Lib.hid H6.out.1, Lib.hid H6.out.2, Lib.hid ⟨by rw [hx.1, hk.1, hk.2.2, List.append_assoc], by rw [hx.2, hk.2.1, hk.2.2]⟩, by rw [List.length_append, str_len]; omega, by rw [List.length_append, List.length_append, str_len]; simp only [List.length_cons, List.length_nil]; omega⟩
      case measure => simp [intOf]; omega
    · obtain rfl : j = N := by omega
      have hx := htx.out
      rw [List.take_of_length_le (by omega)] at hx
      obtain ⟨rfl, rfl⟩ := hx
      obtain ⟨A9, c9, rfl⟩ := own_slice htw.out.one
      obtain ⟨A10, c10, rfl⟩ := own_slice htw.out.two
      have hcap : (linesT TS).length ≤ c10 := by
        rcases htw.out.two.2 with ⟨hv, h0⟩ | ⟨g, cap, cur, hv, -, -, hl, -⟩
        · omega
        · injection hv with _ _ hv; rw [hv]; exact hl
      have hr9 : RB wr A9 (rs ++ TS.flatten).length (rs ++ TS.flatten) := RB.of_own htw.out.one
      have hr10 : RB wr A10 (linesT TS).length (linesT TS) := RB.of_own htw.out.two
      have HR := Lib.hid (And.intro hr9 (And.intro hr10 (And.intro hbb.out HW.out)))
      obtain ⟨ln, hln⟩ : ∃ ln, ln = (linesT TS).length := ⟨_, rfl⟩
      obtain ⟨an, han⟩ : ∃ an, an = (rs ++ TS.flatten).length := ⟨_, rfl⟩
      rw [← hln, ← han] at HR
      rw [← hln] at hcap hle2
      rw [← han] at hle1
      rw [← hln, ← han]
      have HN := Lib.hid (And.intro hln han)
      clear hr9 hr10 htw htx hbb hln han HW HT3
      obtain ⟨i1, hi', hz0', hz1', hz2''⟩ := info_parts infoStr
      go_wp2_with fail
      have hws := HR.out.2.2.1.size
      obtain ⟨wo, hwo⟩ : ∃ wo, wo = wr := ⟨_, rfl⟩
      subst hwo
      go_loopw [13, 14, 49] (fun v13 v14 i wr => ∃ (q k : Nat), i = .int .i64 q ∧ v14 = .int .i64 (lineAt TS k) ∧ k ≤ j ∧ q ≤ ln ∧ lineAt TS k ≤ q ∧ Hid (∀ t, TS[k]? = some t → q ≤ lineAt TS k + t.length) ∧ Hid (wr.ownsRow wo.heap.size 9 1 v13 k ((TS.take k).map sV)) ∧ Hid (Below wo.heap.size wo wr)) (fun _ _ i _ => ln - (intOf i).toNat)
      case atStart => exact ⟨0, 0, rfl, rfl, Nat.zero_le _, Nat.zero_le _, Nat.zero_le _, Lib.hid fun t _ => by rw [lineAt_zero]; omega, Lib.hid (World.ownsRow_nil _ _ _ _), Lib.hid (Below.refl _ _)⟩
      case round =>
        obtain ⟨q, k, rfl, rfl, hkj, hq, hlq, hin, hown, hbb⟩ := hrel
        by_cases hql : q < ln
        · have hkl : k < j := by
            rcases Nat.lt_or_ge k j with h | h
            · exact h
            · have e1 := lineAt_end TS
              rw [hTl, ← HN.out.1] at e1
              obtain rfl : k = j := by omega
              omega
          obtain ⟨t, htk⟩ : ∃ t, TS[k]? = some t := ⟨_, List.getElem?_eq_getElem (by omega)⟩
          have hinX := hin.out t htk
          obtain ⟨hs1, hs2, hs3⟩ := line_scan HTS.out.2.2.2 htk hlq hinX
          have hrb := HR.out.2.1.keep hbb.out
          obtain ⟨g, o, hA, hg, hc⟩ := hrb.2 (by omega)
          have hcq := hc q hql
          subst hA
          have h86 := HTS.out.2.2.1 t (List.mem_of_getElem? htk)
          have hls := lineAt_succ htk
          have htt : (TS.take (k + 1)).map sV = (TS.take k).map sV ++ [sV t] := by rw [List.take_add_one, htk]; simp
          have hql' : (q : Int) < (ln : Int) := by omega
          have ho3 := hown.out
          have hszt := hbb.out.size
          obtain ⟨x, hx⟩ : ∃ x, x = (linesT TS).getD q 0 := ⟨_, rfl⟩
          rw [← hx] at hcq hs2
          obtain ⟨L, hL⟩ : ∃ L, L = lineAt TS k := ⟨_, rfl⟩
          rw [← hL] at hs2 hs3 hls hlq hinX ⊢
          have HK := Lib.hid (And.intro htk (And.intro htt (And.intro hls (And.intro hs3 hL))))
          clear hc htk htt hls hx hs1 hin
          by_cases hx10 : x = 10
          · subst hx10
            have hqe := hs2.1 rfl
            have hcv := fun c' => sub_str hrb L (q - L) c' (by omega)
            rw [show q - L = t.length by omega, HK.out.2.2.2.1, show t.length = q - L by omega] at hcv
            have HQ := Lib.hid hqe
            have q1 : (((10 : UInt8).toNat : Int) == 10) = true := by decide
            clear hs2 hs3 hL hqe hinX
            go_wp2_with ((at_builtin; refine append1 rfl _ _ 26 rfl (wo.heap.size) 9 i1 (.string ⟨#[]⟩) 1 16 Tryd.underlying26 hi' hz0' hz1' hz2'' rfl (by decide) _ _ _ rfl (ho3) _ _ [.string ⟨t.toArray⟩] rfl (by simp) rfl rfl (by unfold maxLen; omega) (by omega) (by first | omega | (simp; omega)) ?_))
            intro v6 w6 hown6 hgr6
            have hxb : Below wr.heap.size wr (wr.alloc (.cells #[.string ⟨t.toArray⟩] 9)) := (Below.refl _ _).alloc (Nat.le_refl _) _
            have hb6 : Below wo.heap.size wo w6 := (hbb.out.trans (hxb.mono hszt)).grown hgr6 (Nat.le_trans hszt hxb.size) (own_row_ge ho3)
            have ho6 : w6.ownsRow wo.heap.size 9 1 v6 (k + 1) ((TS.take (k + 1)).map sV) := by rw [HK.out.2.1, List.map_take]; exact hown6
            have G1 := Lib.hid ho6
            have G2 := Lib.hid hb6
            clear hown6 hgr6 ho6 hb6 hxb ho3 hown hbb hcv hcq hszt hrb
            go_wp2
            go_roundw
            case rel => exact ⟨q + 1, k + 1, by go_num, by rw [HK.out.2.2.1, HQ.out]; go_num, by omega, by omega, by rw [HK.out.2.2.1, HQ.out]; omega, Lib.hid fun t2 _ => by rw [HK.out.2.2.1, HQ.out]; omega, G1, G2⟩
            case measure => simp [intOf]; omega
          · have hqe : q ≠ L + t.length := fun h => hx10 (hs2.2 h)
            have q1 : ((x.toNat : Int) == 10) = false := by
              rw [beq_eq_false_iff_ne]; intro h; exact hx10 (UInt8.toNat_inj.1 (by show x.toNat = 10; omega))
            have q2 : (x.toNat == 10) = false := by
              rw [beq_eq_false_iff_ne]; intro h; exact hx10 (UInt8.toNat_inj.1 (by show x.toNat = 10; omega))
            clear hs2 hs3
            go_wp2
            go_roundw
            case rel => exact ⟨q + 1, k, by go_num, by rw [← HK.out.2.2.2.2], by omega, by omega, by rw [← HK.out.2.2.2.2]; omega, Lib.hid fun t2 ht2 => by
              have := HK.out.1.symm.trans ht2
              injection this with this
              subst this
              rw [← HK.out.2.2.2.2]; omega, hown, hbb⟩
            case measure => simp [intOf]; omega
        · obtain rfl : q = ln := by omega
          have hke : k = j := by
            rcases Nat.lt_or_ge k j with h | h
            · obtain ⟨t, htk⟩ : ∃ t, TS[k]? = some t := ⟨_, List.getElem?_eq_getElem (by omega)⟩
              have := (line_scan HTS.out.2.2.2 htk hlq (hin.out t htk)).1
              have := HN.out.1
              omega
            · omega
          subst hke
          have ho := hown.out
          rw [List.take_of_length_le (by omega)] at ho
          obtain ⟨A6, c6, rfl⟩ := own_slice ho
          have hb2r := HR.out.2.2.1.trans (hbb.out.mono HR.out.2.2.1.size)
          have hz3 := hz2'.keep hb2r
          have hRT : RT wr A6 k (TS.map fun t => (⟨t.toArray⟩ : ByteArray)) := ⟨by rw [List.length_map]; exact hTl, by rw [List.map_map]; exact RC.of_own ho⟩
          have hrd : ∀ (i : Nat) (t : ByteArray) (o : Out), (TS.map fun t => (⟨t.toArray⟩ : ByteArray))[i]? = some t → (es.map fun e => (some e.is : Out))[i]? = some o → Reads z wr t o := fun i t o h1 h2 => by
            rw [HTS.out.1, List.map_map] at h1
            by_cases hil : i < es.length
            · rw [List.getElem?_map, List.getElem?_eq_getElem hil] at h1 h2
              simp only [Option.map_some, Option.some.injEq, Function.comp] at h1 h2
              rw [← h1, ← h2]
              exact full_reads es[i].is (HV.out.1 _ (List.getElem_mem hil)) z wr hz3
            · rw [List.getElem?_eq_none (by simp; omega)] at h1; cases h1
          have hpe := parseEach_c A6 k c6 _ _ z wr hz3 hRT (by rw [List.length_map]; exact HV.out.2.symm) hrd (by omega)
          have HPE := Lib.hid (And.intro hpe (And.intro hb2r (And.intro (HR.out.1.keep hbb.out) (HR.out.2.2.2.2.1.keep hb2r))))
          clear hpe hb2r hRT hrd ho hown hin hbb hlq hz3
          go_wp2_with fail
          refine HPE.out.1.mono ?_
          rintro e5 w7 ⟨A7, c7, fs, rfl, hown7, hmap7, hin7, hb7⟩
          have hfl : fs.length = k := by have := congrArg List.length hmap7; simp at this; have := HV.out.2; omega
          rw [hfl] at hown7 ⊢
          have hre := RE.of_own hown7 hfl hin7
          have hb27 := HPE.out.2.1.trans (hb7.mono HPE.out.2.1.size)
          have hr97 := HPE.out.2.2.1.keep hb7
          have hrp7 := HPE.out.2.2.2.keep hb7
          have HF := Lib.hid (And.intro hmap7 (And.intro hre (And.intro hb27 (And.intro hr97 hrp7))))
          clear hmap7 hown7 hin7 hb7 hre hb27 hr97 hrp7 HPE
          go_wp2_with fail
          have hR7 := (HR.out.2.2.2.2.2.2).keep HF.out.2.2.1
          refine (pfAppAll_c R rn rc rs A1 k c1 es z w7 (hz2'.keep HF.out.2.2.1) hR7 hR (by omega) HF.out.2.2.2.2 HV.out.1 (by omega)).mono ?_
          rintro e8 w8 ⟨v8, rfl, h8⟩
          obtain ⟨A8, c8, rfl⟩ := h8.slice
          have hr8 := h8.rb
          have hb78 := h8.low
          have hr98 := HF.out.2.2.2.1.keep hb78
          have hre8 := HF.out.2.1.keep hb78
          have hrp8 := HF.out.2.2.2.2.keep hb78
          have hb28 := HF.out.2.2.1.trans (hb78.mono HF.out.2.2.1.size)
          have htx : rs ++ (es.map fun e => pfT e.is).flatten = rs ++ TS.flatten := by rw [HTS.out.1]
          rw [htx] at hr8 ⊢
          rw [← HN.out.2] at hr8 ⊢
          have H8 := Lib.hid (And.intro hre8 (And.intro hrp8 (And.intro hb28 (And.intro hr8 hr98))))
          clear h8 hb78 hr98 hre8 hrp8 hb28 htx hr8 hR7
          go_wp2_with fail
          refine (equal_c A8 A9 an an c8 c9 _ _ w8 H8.out.2.2.2.1 H8.out.2.2.2.2 (by omega)).mono ?_
          rintro e9 w9 ⟨rfl, hb9⟩
          rw [show decide (rs ++ TS.flatten = rs ++ TS.flatten) = true from decide_eq_true rfl]
          have hre9 := H8.out.1.keep hb9
          have hrp9 := H8.out.2.1.keep hb9
          have hb29 := H8.out.2.2.1.trans (hb9.mono H8.out.2.2.1.size)
          have H9 := Lib.hid (And.intro hre9 (And.intro hrp9 hb29))
          clear hre9 hrp9 hb29 hb9 H8
          go_wp2_with fail
          go_loopw [84] (fun i wr => ∃ s : Nat, i = .int .i64 s ∧ s ≤ k ∧ Hid (Below w9.heap.size w9 wr)) (fun i _ => k - (intOf i).toNat)
          case atStart => exact ⟨0, rfl, Nat.zero_le _, Lib.hid (Below.refl _ _)⟩
          case round =>
            obtain ⟨s, rfl, hs, hbb⟩ := hrel
            by_cases hsk : s < k
            · obtain ⟨g1, o1, f, hA, hg1, hfs, hc0, hc1, hc2, hc3, hbf⟩ := (H9.out.1.keep hbb.out).at hsk
              subst hA
              obtain ⟨g2, o2, e, hA, hg2, hes, hd0, hd1, hd2, hbe⟩ := (H9.out.2.1.keep hbb.out).at hsk
              subst hA
              have hfo : f.is = Out.is (some e.is) := by
                have h1 := congrArg (fun l => l[s]?) HF.out.1
                simp only [List.getElem?_map, hfs, hes, Option.map_some, Option.some.injEq] at h1
                exact h1
              obtain ⟨f1, f2, f3⟩ := Pe.of_out hfo
              have f1' : f.bs = e.bs := f1
              have f2' : f.k = (e.k : Int) := f2
              have f3' : f.ok = true := f3
              rw [f1'] at hbf
              rw [f2'] at hc2
              rw [f3'] at hc3
              have hve := HV.out.1 e (List.mem_of_getElem? hes)
              have hfn : f.n ≤ 9223372036854775807 := by have := hbf.1; have h2 := hve.1; unfold isLen at h2; simp only [Pf.is] at h2; omega
              have hxa : Below wr.heap.size wr (wr.alloc (.cells #[.slice f.a f.n f.c, .string ⟨#[]⟩, .int .i64 e.k, .bool true] 37)) := (Below.refl _ _).alloc (Nat.le_refl _) _
              have hbox : Blk (wr.alloc (.cells #[.slice f.a f.n f.c, .string ⟨#[]⟩, .int .i64 e.k, .bool true] 37)) wr.heap.size 37 #[.slice f.a f.n f.c, .string ⟨#[]⟩, .int .i64 e.k, .bool true] := heap_alloc_new _ _
              obtain ⟨gx, hgx⟩ : ∃ gx, gx = wr.heap.size := ⟨_, rfl⟩
              have hb9x := hbb.out.trans (hxa.mono hbb.out.size)
              have c0 := (hxa.cell (p := ⟨g2, o2 + s * 3, none⟩) hg2).trans hd0
              have c1x := (hxa.cell (p := ⟨g2, o2 + s * 3 + 1, none⟩) hg2).trans hd1
              have c2x := (hxa.cell (p := ⟨g2, o2 + s * 3 + 2, none⟩) hg2).trans hd2
              have hg2x := Nat.lt_of_lt_of_le hg2 hxa.size
              have HX := Lib.hid (And.intro hgx (And.intro hbox (And.intro hb9x (And.intro (hbf.keep hxa) (And.intro (hbe.keep hxa) (And.intro c0 (And.intro c1x (And.intro c2x hg2x))))))))
              clear hgx hbox hxa hb9x hbf hbe c0 c1x c2x hg2x hfo f1 f2 f3 f1' f2' f3' hfs hes hd0 hd1 hd2
              go_wp2_with fail
              obtain ⟨hgx, hbox, hb9x, hbf, hbe, c0, c1x, c2x, hg2x⟩ := HX.out
              rw [← hgx] at hbox ⊢
              clear HX hc0 hc1 hc2 hc3 hgx
              generalize wr.alloc (.cells #[.slice f.a f.n f.c, .string ⟨#[]⟩, .int .i64 e.k, .bool true] 37) = w10 at *
              have hdr : Below w10.heap.size w10 w10.drew := ⟨rfl, rfl, rfl, Nat.le_refl _, fun _ _ => rfl⟩
              have lx := hbox.lt
              have rX : ∀ w', Below w10.heap.size w10 w' → ∀ i, w'.cell? ⟨gx, i, none⟩ = #[Value.slice f.a f.n f.c, .string ⟨#[]⟩, .int .i64 e.k, .bool true][i]? := fun w' h i => (h.cell (p := ⟨gx, i, none⟩) lx).trans (hbox.cell i)
              have q1 : (0 : Int) ≤ s ∧ (s : Int) < k := by omega
              have HQ := Lib.hid q1
              clear q1
              refine region_pick (Below w10.heap.size w10) [(0, false, none), (1, false, none), (2, false, none), (3, false, none), (4, false, none), (5, false, none), (6, false, none), (7, false, none), (8, false, none), (9, false, none), (10, false, none), (11, false, none), (12, false, none)] 13 (by kernel_rfl) (by kernel_rfl) (fun w w' h hb => h.trans (hb.mono h.size)) (hdr) ?_
              simp only [pickOps, List.getElem?_cons_zero, List.getElem?_cons_succ]
              repeat (first | (refine t_skip rfl ?_; (simp only [Act.put, List.setIfInBounds_toArray, List.set_cons_zero, List.set_cons_succ])) | (refine t_run ?_ rfl (fun w1 hw1 => ?_) ?_; rotate_left; (have r0 := rX w1 hw1; have r1 := HQ.out; have r2 := (hw1.cell (p := ⟨g2, o2 + s * 3, none⟩) hg2x).trans c0; have r3 := (hw1.cell (p := ⟨g2, o2 + s * 3 + 1, none⟩) hg2x).trans c1x; have r4 := (hw1.cell (p := ⟨g2, o2 + s * 3 + 2, none⟩) hg2x).trans c2x; go_simp; try (with_reducible rfl)); (simp only [Act.put, List.setIfInBounds_toArray, List.set_cons_zero, List.set_cons_succ])) | (refine t_call ?_ ?_ ?_ rfl (fun w1 hw1 => ?_) (fun w1 hw1 => ?_) ?_; rotate_left 3; (have r0 := rX w1 hw1; have r1 := HQ.out; have r2 := (hw1.cell (p := ⟨g2, o2 + s * 3, none⟩) hg2x).trans c0; have r3 := (hw1.cell (p := ⟨g2, o2 + s * 3 + 1, none⟩) hg2x).trans c1x; have r4 := (hw1.cell (p := ⟨g2, o2 + s * 3 + 2, none⟩) hg2x).trans c2x; go_simp; refine ⟨?_, ?_⟩ <;> with_reducible rfl); (first | (go_at_call 11; (with_reducible refine (samePf_eq f.a e.a f.n e.n f.c e.c e.bs e.k w1 (hbf.keep hw1) (hbe.keep hw1) hfn).mono ?_); rintro e w2 ⟨rfl, hb⟩; refine ⟨?_, hb⟩; with_reducible rfl) | (go_at_call 11; (refine (samePf_eq f.a e.a f.n e.n f.c e.c e.bs e.k w1 (hbf.keep hw1) (hbe.keep hw1) hfn).mono ?_); rintro e w2 ⟨rfl, hb⟩; refine ⟨?_, hb⟩; with_reducible rfl)); (simp only [Act.put, List.setIfInBounds_toArray, List.set_cons_zero, List.set_cons_succ])))
              intro w11 hw11
              simp only [List.drop_succ_cons, List.drop_zero]
              have HB := Lib.hid (hb9x.trans (hw11.mono hb9x.size))
              clear rX hdr hbox hbf hbe c0 c1x c2x hg2x
              go_wp2
              go_roundw
              case rel => exact ⟨s + 1, by go_num, by omega, HB⟩
              case measure => simp [intOf]; omega
            · obtain rfl : s = k := by omega
              have hb2 := H9.out.2.2.trans (hbb.out.mono H9.out.2.2.size)
              have hbF := hbw.trans (hb2.mono hbw.size)
              have HB := Lib.hid hbF
              clear hb2 hbF
              go_wp2
              go_returns
              exact ⟨rfl, HB.out⟩
end Go.Proofs.YtnoolheinkeocaaDoor
