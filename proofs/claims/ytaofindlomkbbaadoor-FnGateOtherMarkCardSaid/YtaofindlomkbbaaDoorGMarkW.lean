/-
  The walk of laws.FnGateOtherMark.
-/
import Derived.Test.YtaofindlomkbbaaDoorGSame
import Derived.Test.YtaofindlomkbbaaDoorGBad
namespace Go.Proofs.YtaofindlomkbbaaDoor
open Go Go.RowKit
theorem mark_text {S : ByteArray} {l : List UInt8} (h : S.data.toList = l) (p : Nat) (x : UInt8) : S.extract 0 p ++ ⟨#[x]⟩ ++ S.extract (p + 1) S.size = ba (markT l p x) := by
  refine ba_of ?_
  rw [ByteArray.data_append, Array.toList_append, ByteArray.data_append, Array.toList_append, extract_list, extract_list]
  unfold bytesIn markT
  have hs : l.length = S.size := by rw [← h, str_len]
  rw [h, List.drop_zero, Nat.sub_zero, List.take_of_length_le (l := List.drop (p + 1) l) (by rw [List.length_drop]; omega)]
  simp
theorem mark_at {S : ByteArray} {l : List UInt8} (h : S.data.toList = l) {p : Nat} (hp : p < S.size) : l[p]? = some (S[p]'hp) := by
  rw [← h]
  exact List.getElem?_eq_getElem (l := S.data.toList) (by rw [str_len]; exact hp)
set_option maxRecDepth 100000 in
/-- One byte, as a text. -/
theorem one_conv {B g : Nat} {x : UInt8} {w : World} (h : w.ownsRow B 5 1 (.slice (some ⟨g, 0, none⟩) 1 1) 1 [.int .u8 x.toNat]) : (convert 22 9 (.slice (some ⟨g, 0, none⟩) 1 1)).run Tryd.prog w = .ok (.string ⟨#[x]⟩) w := by
  obtain ⟨g', hg1, -, hc⟩ := own_some h (by omega)
  injection hg1 with hg1
  injection hg1 with hg1
  subst hg1
  exact run_convert_bytes_back w _ _ 5 ⟨g, 0, none⟩ 1 [x] Tryd.underlying22 Tryd.underlying5 Tryd.underlying9 (fun j hj => by
    obtain rfl : j = 0 := by simpa using hj
    simpa [Addr.add] using hc 0 _ rfl)
set_option maxRecDepth 100000 in
set_option maxHeartbeats 32000000 in
theorem gateMark_walk (A : Option Addr) (n c : Nat) (bs : List UInt8) (N : Int) (x : UInt8) (z : ZP) (w : World) (hz : Zs w z) (hpw : PW w) (hr : RB w A n bs) (hR : A = none → n = 0 ∧ c = 0) (hn : n ≤ 140737488355328) :
    Calls Tryd.prog 5 #[.slice A n c, .int .i64 N, .int .u8 x.toNat] w fun e w' => e = .returned (.bool true) ∧ Below w.heap.size w w' := by
  obtain ⟨i0, hi, hz0, hz1, hz2⟩ := info_parts infoStr
  have hbl := hr.1
  have hpx := portN_and N
  have hp2 := portN_lt N
  have hp3 := wrap_u16 _ hp2
  generalize portN N = u at *
  obtain ⟨X, hX⟩ : ∃ X, X = x.toNat := ⟨_, rfl⟩
  rw [← hX]
  have HXX := Lib.hid hX
  have hX2 : X < 256 := by rw [hX]; exact UInt8.toNat_lt x
  clear hX
  go_enter Tryd.func5, Tryd.ntmps5
  go_wp2_with fail
  refine (isAddress_c A n c w).mono ?_
  rintro e w0 ⟨rfl, hb0⟩
  by_cases hl : (n == 4 || n == 16) = true
  · rw [hl]
    have hlen : isLen bs.length := by rw [hbl]; simpa [isLen] using hl
    go_wp2_with fail
    refine (plain_c A n c bs w0 (hr.keep hb0) hR hn).mono ?_
    rintro e w1 ⟨A1, c1, rfl, hown1, hb1'⟩
    have hb1 := hb0.trans (hb1'.mono hb0.size)
    have hr1 := RB.of_own hown1
    clear hown1 hb1' hb0
    go_wp2_with fail
    refine (gateText_c A1 n c1 bs u z w1 (hz.keep hb1) hr1 hlen hp2 (hpw.keep hb1)).mono ?_
    rintro e w2 ⟨rfl, hb2'⟩
    have hb2 := hb1.trans (hb2'.mono hb1.size)
    obtain ⟨S, hS⟩ : ∃ S : ByteArray, S = ba (gT bs u) := ⟨_, rfl⟩
    rw [show (⟨(gT bs u).toArray⟩ : ByteArray) = S from hS.symm]
    have hSl : S.data.toList = gT bs u := by rw [hS]; rfl
    obtain ⟨a, ha⟩ : ∃ a, a = (gA bs).length := ⟨_, rfl⟩
    have hdp : 0 < (Lib.decDigits u).length := List.length_pos_iff.2 (dd_ne u)
    have hdl := dd_len hp2
    have hSs : S.size = a + 1 + (Lib.decDigits u).length := by rw [← str_len, hSl, gT_gA, ha, List.length_append, List.length_cons]; omega
    have hal : a ≤ 84 ∧ 0 < a := by
      have := adT_le hlen
      have h1 := adT_pos hlen
      have h2 := gA_len (bs := bs)
      rw [ha]; split at h2 <;> omega
    have hlx : lix S.data.toList 58 S.size = a := by
      rw [← str_len, hSl, gT_gA, ha]; exact lix_all (digs_no58 (dd_digs u))
    have HLX := Lib.hid hlx
    have HS := Lib.hid (And.intro hSl (And.intro ha (And.intro hSs (And.intro hlen hbl))))
    have hS1 : a + 1 < S.size := by omega
    have hS2 : S.size ≤ 90 := by omega
    clear hlx hSl ha hSs hS hdp hdl hb2' hb1 hr1
    go_wp2_with fail
    refine (lastColon_c S w2 (by omega)).mono ?_
    rintro e w3 ⟨rfl, rfl⟩
    rw [HLX.out]
    have q1 : ¬ (a : Int) < 1 := by omega
    have HB2 := Lib.hid hb2
    have HAL := Lib.hid hal
    clear hb2 hal hbl
    by_cases h16 : n = 16
    · subst h16
      have hpl : ∀ t, t < 3 → ∃ p : Nat, ((w3.alloc (.cells #[.int .i64 a] 3)).alloc (.cells #[.int .i64 a, .int .i64 ((a : Int) - 1), .int .i64 0] 3)).cell? ⟨w3.heap.size + 1, t, none⟩ = some (.int .i64 p) ∧ p ∈ marksAt bs ∧ p < S.size := fun t ht => by
        have hmk : marksAt bs = [a, a - 1, 0] := by unfold marksAt; rw [if_pos HS.out.2.2.2.2, ← HS.out.2.1]
        have hX2 := boxes2 (x0 := #[.int .i64 a]) (x1 := #[.int .i64 a, .int .i64 ((a : Int) - 1), .int .i64 0]) w3 3 3
        rw [hmk, hX2.b1 t]
        have h1 := HAL.out
        rcases Nat.lt_or_ge t 1 with h | h
        · obtain rfl : t = 0 := by omega
          exact ⟨a, rfl, by simp, by omega⟩
        · rcases Nat.lt_or_ge t 2 with h2 | h2
          · obtain rfl : t = 1 := by omega
            refine ⟨a - 1, ?_, by simp, by omega⟩
            rw [show (((a - 1 : Nat)) : Int) = (a : Int) - 1 by omega]
            rfl
          · obtain rfl : t = 2 := by omega
            exact ⟨0, rfl, by simp, by omega⟩
      have HPL := Lib.hid hpl
      clear hpl
      go_wp2_with fail
      have hsz : ((w3.alloc (.cells #[.int .i64 a] 3)).alloc (.cells #[.int .i64 a, .int .i64 ((a : Int) - 1), .int .i64 0] 3)).heap.size = w3.heap.size + 1 + 1 := by simp
      have hbq : Below w3.heap.size w3 ((w3.alloc (.cells #[.int .i64 a] 3)).alloc (.cells #[.int .i64 a, .int .i64 ((a : Int) - 1), .int .i64 0] 3)) := (by first | exact ((Below.refl _ _).alloc (Nat.le_refl _) _).alloc (by simp) _ | exact (Below.refl _ _).alloc (Nat.le_refl _) _)
      have hP : w3.heap.size + 1 < ((w3.alloc (.cells #[.int .i64 a] 3)).alloc (.cells #[.int .i64 a, .int .i64 ((a : Int) - 1), .int .i64 0] 3)).heap.size := by rw [hsz]; omega
      generalize (w3.alloc (.cells #[.int .i64 a] 3)).alloc (.cells #[.int .i64 a, .int .i64 ((a : Int) - 1), .int .i64 0] 3) = wq at *
      rw [← hsz]
      have HQ := Lib.hid (HB2.out.trans (hbq.mono HB2.out.size))
      clear hsz hbq
      generalize w3.heap.size + 1 = P at hP HPL ⊢
      have hO0 : (wq.alloc (.cells #[] 9)).ownsRow wq.heap.size 9 1 (.slice (some ⟨wq.heap.size, 0, none⟩) 0 0) 0 [] := own_lit wq #[] _ 1 0 _ (Nat.le_refl _) rfl (by omega)
      have HO0 := Lib.hid hO0
      clear hO0
      go_loopw [10, 43] (fun v i wr => ∃ (t : Nat) (ts : List ByteArray), i = .int .i64 t ∧ t ≤ 3 ∧ ts.length ≤ t ∧ Hid (wr.ownsRow wq.heap.size 9 1 v ts.length (ts.map Value.string)) ∧ Hid (∀ y ∈ ts, Refused y) ∧ Hid (Below wq.heap.size wq wr)) (fun _ i _ => 3 - (intOf i).toNat)
      case atStart => exact ⟨0, [], rfl, Nat.zero_le _, Nat.le_refl _, HO0, Lib.hid (fun y hy => by cases hy), Lib.hid ((Below.refl _ _).alloc (Nat.le_refl _) _)⟩
      case round =>
        obtain ⟨t, ts, rfl, ht, hlt, HO, HR, HBQ⟩ := hrel
        by_cases htl : t < 3
        · obtain ⟨p, hc, hpm, hps⟩ := HPL.out t htl
          have hc1 := (HBQ.out.cell (p := ⟨P, t, none⟩) hP).trans hc
          have htl' : (t : Int) < 3 := by omega
          have hps' : (p : Int) < (S.size : Int) := by omega
          have HM := Lib.hid (And.intro hpm hps)
          clear hc hpm
          by_cases hm : (S[p]'hps).toNat = X
          · have m1 : (((S[p]'hps).toNat : Int) != X) = false := by rw [bne_eq_false_iff_eq]; omega
            have m2 : ((S[p]'hps).toNat != X) = false := by rw [bne_eq_false_iff_eq]; exact hm
            clear hm
            go_wp2
            go_roundw
            case rel => exact ⟨t + 1, ts, by go_num, by omega, by omega, HO, HR, HBQ⟩
            case measure => simp [intOf]; omega
          · have m1 : (((S[p]'hps).toNat : Int) != X) = true := by rw [bne_iff_ne]; omega
            have m2 : ((S[p]'hps).toNat != X) = true := by rw [bne_iff_ne]; exact hm
            have HNM := Lib.hid hm
            clear hm
            have hdr : Below wr.heap.size wr wr.drew := ⟨rfl, rfl, rfl, Nat.le_refl _, fun _ _ => rfl⟩
            have hwrap : IntKind.i64.wrap ((p : Int) + 1) = (p : Int) + 1 := by rw [IntKind.wrap_i64]; omega
            have z1 : (0 : Int) ≤ (p : Int) := by omega
            have z2 : (0 : Int) ≤ (p : Int) + 1 := by omega
            have z3 : (p : Int) ≤ (S.size : Int) := by omega
            have z4 : (p : Int) + 1 ≤ (S.size : Int) := by omega
            have hsz1 : (S.extract 0 p).size = p := by rw [ByteArray.size_extract]; omega
            have hsz2 : (S.extract (p + 1) S.size).size = S.size - (p + 1) := by rw [ByteArray.size_extract]; omega
            have hsz3 : (⟨#[x]⟩ : ByteArray).size = 1 := rfl
            have s1 : ¬ 9223372036854775807 < p + 1 := by omega
            have s2 : ¬ 9223372036854775807 < p + 1 + (S.size - (p + 1)) := by omega
            go_wp2_with fail
            refine region_pick (Below wr.heap.size wr) [(0, false, none), (1, false, none), (2, false, none), (3, false, none), (4, false, none), (8, false, none), (9, false, none), (10, false, none), (11, false, none), (5, true, none), (6, false, none), (7, false, none), (12, false, none), (13, true, none)] 14 (by kernel_rfl) (by kernel_rfl) (fun w w' h hb => h.trans (hb.mono h.size)) (hdr) ?_
            simp only [pickOps, List.getElem?_cons_zero, List.getElem?_cons_succ]
            repeat (first | (refine t_skip rfl ?_; (simp only [Act.put, List.setIfInBounds_toArray, List.set_cons_zero, List.set_cons_succ])) | (refine t_run ?_ rfl (fun w1 hw1 => ?_) ?_; rotate_left; (have r0 := hwrap; have r1 := z1; have r2 := z2; have r3 := z3; have r4 := z4; go_simp; try (with_reducible rfl)); (simp only [Act.put, List.setIfInBounds_toArray, List.set_cons_zero, List.set_cons_succ])))
            refine t_new (fun v w' => LitRow 0 5 1 1 [.int .u8 x.toNat] v w') (by rfl) (fun v w w' h hb => h.keep hb) (fun w1 hw1 => ?_) ?_
            refine ⟨?_, ?_, ?_, ?_, ?_⟩
            rotate_left 2
            (go_simp; first | (refine ⟨?_, ?_⟩ <;> with_reducible rfl) | with_reducible rfl)
            exact ⟨_, rfl, by rw [HXX.out]; exact own_lit w1 #[.int .u8 x.toNat] _ 1 1 _ (Nat.zero_le _) rfl (by omega)⟩
            exact (Below.refl _ _).alloc (Nat.le_refl _) _
            rintro v5 ⟨-, -, g5, rfl, -⟩
            (simp only [Act.put, List.setIfInBounds_toArray, List.set_cons_zero, List.set_cons_succ])
            repeat (first | (refine t_skip rfl ?_; (simp only [Act.put, List.setIfInBounds_toArray, List.set_cons_zero, List.set_cons_succ])) | (refine t_run ?_ rfl (fun w1 hw1 => ?_) ?_; rotate_left; (have r0 := one_conv hw1.2.own; have r1 := hsz1; have r2 := hsz2; have r3 := hsz3; have r4 := s1; have r5 := s2; go_simp; try (with_reducible rfl)); (simp only [Act.put, List.setIfInBounds_toArray, List.set_cons_zero, List.set_cons_succ])))
            have hrf : Refused (ba (markT (gT bs u) p x)) := (mark_refused HS.out.2.2.2.1 hp2 HM.out.1 (fun h => by
              rw [mark_at HS.out.1 hps] at h
              injection h with h
              exact HNM.out (by rw [h, ← HXX.out]))).2
            rw [mark_text HS.out.1 p x]
            generalize ba (markT (gT bs u) p x) = T at hrf ⊢
            have HRF := Lib.hid hrf
            clear hrf
            refine t_new (fun v w' => LitRow 0 9 1 1 [.string T] v w') (by rfl) (fun v w w' h hb => h.keep hb) (fun w1 hw1 => ?_) ?_
            refine ⟨?_, ?_, ?_, ?_, ?_⟩
            rotate_left 2
            (go_simp; first | (refine ⟨?_, ?_⟩ <;> with_reducible rfl) | with_reducible rfl)
            exact ⟨_, rfl, own_lit w1 #[.string T] _ 1 1 _ (Nat.zero_le _) rfl (by omega)⟩
            exact (Below.refl _ _).alloc (Nat.le_refl _) _
            rintro v7 ⟨-, -, g7, rfl, -⟩
            (simp only [Act.put, List.setIfInBounds_toArray, List.set_cons_zero, List.set_cons_succ])
            intro w7 ⟨⟨hw7, _⟩, hl7⟩
            simp only [List.drop_succ_cons, List.drop_zero]
            obtain ⟨g', hg1', hg2', hg3'⟩ := own_some hl7.own (by omega)
            injection hg1' with hg1'
            injection hg1' with hg1'
            subst hg1'
            have hO7 := own_below HO.out hw7
            have hs7 : wq.heap.size ≤ w7.heap.size := Nat.le_trans HBQ.out.size hw7.size
            have HO7 := Lib.hid hO7
            have HB7 := Lib.hid (HBQ.out.trans (hw7.mono HBQ.out.size))
            have HC := Lib.hid hg3'
            clear hO7 hg3' hl7 hw7
            go_wp2_with (at_builtin; refine wpList_append_own _ rfl _ _ 32 rfl wq.heap.size 9 i0 (.string ⟨#[]⟩) 1 16 Tryd.underlying32 hi hz0 hz1 hz2 rfl (by decide) _ _ _ rfl HO7.out ⟨g7, 0, none⟩ _ _ [.string T] rfl rfl (fun j u hj => by rw [add_zero_off, Nat.zero_add]; exact HC.out j u hj) (by intro u hu; rw [List.mem_singleton.1 hu]; rfl) (by unfold maxLen; omega) (by omega) hs7 ?_)
            intro v8 w8 hown8 hgrow _
            have hb8 := HB7.out.grown hgrow HB7.out.size (own_row_ge HO7.out)
            have ho8 : w8.ownsRow wq.heap.size 9 1 v8 (ts ++ [T]).length ((ts ++ [T]).map Value.string) := by rw [List.length_append, List.map_append]; exact hown8
            have hr8 : ∀ y ∈ ts ++ [T], Refused y := fun y hy => by
              rcases List.mem_append.1 hy with hy | hy
              · exact HR.out y hy
              · rw [List.mem_singleton.1 hy]; exact HRF.out
            have hl8 : (ts ++ [T]).length ≤ t + 1 := by rw [List.length_append, List.length_singleton]; omega
            generalize ts ++ [T] = ts8 at ho8 hr8 hl8
            have G1 := Lib.hid ho8
            have G2 := Lib.hid hr8
            have G3 := Lib.hid hb8
            clear ho8 hr8 hb8 hown8 hgrow HO7 HB7 HC
            go_wp2
            go_roundw
            case rel => exact ⟨t + 1, ts8, by go_num, by omega, hl8, G1, G2, G3⟩
            case measure => simp [intOf]; omega
        · obtain rfl : t = 3 := by omega
          obtain ⟨A6, c6, rfl⟩ := own_slice HO.out
          have hb6 := HQ.out.trans (HBQ.out.mono HQ.out.size)
          have hpe := portEach_t A6 ts.length c6 ts (List.replicate ts.length none) z wr (hz.keep hb6) ⟨rfl, RC.of_own HO.out⟩ (by simp) (fun i t o h1 h2 => by
            obtain rfl : o = none := List.eq_of_mem_replicate (List.mem_of_getElem? h2)
            exact HR.out t (List.mem_of_getElem? h1) z wr (hz.keep hb6)) (by omega)
          have HPE := Lib.hid (And.intro hpe hb6)
          clear hpe hb6
          go_wp2_with fail
          refine HPE.out.1.mono ?_
          rintro e7 w7 ⟨v7, rfl, ⟨A8, c8, A9, c9, es, rfl, -, hro, -⟩, hb7⟩
          have hbw7 := HPE.out.2.trans (hb7.mono HPE.out.2.size)
          have HRO := Lib.hid (And.intro hro hbw7)
          clear hro hbw7 hb7 HPE HO HR HBQ
          generalize ts.length = k at *
          go_wp2_with fail
          go_loopw [75] (fun i wr2 => ∃ j : Nat, i = .int .i64 j ∧ j ≤ k ∧ Hid (Below w7.heap.size w7 wr2)) (fun i _ => k - (intOf i).toNat)
          case atStart => exact ⟨0, rfl, Nat.zero_le _, Lib.hid (Below.refl _ _)⟩
          case round =>
            obtain ⟨j, rfl, hj, hbj⟩ := hrel
            by_cases hjl : j < k
            · obtain ⟨g9, o9, o, hA9, hg9, hok, hd0⟩ := (HRO.out.1.keep hbj.out).at hjl
              subst hA9
              obtain rfl : o = none := List.eq_of_mem_replicate (List.mem_of_getElem? hok)
              rw [show GOut.ok none = false from rfl] at hd0
              have hjl' : (j : Int) < (k : Int) := by omega
              clear hok
              go_wp2
              go_roundw
              case rel => exact ⟨j + 1, by go_num, by omega, hbj⟩
              case measure => simp [intOf]; omega
            · obtain rfl : j = k := by omega
              have hbe := HRO.out.2.trans (hbj.out.mono HRO.out.2.size)
              go_wp2
              go_returns
              exact ⟨by simp, hbe⟩
    · have h16' : ((n : Int) == 16) = false := by rw [beq_eq_false_iff_ne]; omega
      have h16n : (n == 16) = false := by rw [beq_eq_false_iff_ne]; omega
      have hpl : ∀ t, t < 1 → ∃ p : Nat, (w3.alloc (.cells #[.int .i64 a] 3)).cell? ⟨w3.heap.size, t, none⟩ = some (.int .i64 p) ∧ p ∈ marksAt bs ∧ p < S.size := fun t ht => by
        have hmk : marksAt bs = [a] := by unfold marksAt; rw [if_neg (by rw [HS.out.2.2.2.2]; exact h16), ← HS.out.2.1]
        have hX1 := boxes1 (x0 := #[.int .i64 a]) w3 3
        rw [hmk, hX1.b0 t]
        obtain rfl : t = 0 := by omega
        exact ⟨a, rfl, by simp, by omega⟩
      have HPL := Lib.hid hpl
      clear hpl
      go_wp2_with fail
      have hsz : (w3.alloc (.cells #[.int .i64 a] 3)).heap.size = w3.heap.size + 1 := by simp
      have hbq : Below w3.heap.size w3 (w3.alloc (.cells #[.int .i64 a] 3)) := (by first | exact ((Below.refl _ _).alloc (Nat.le_refl _) _).alloc (by simp) _ | exact (Below.refl _ _).alloc (Nat.le_refl _) _)
      have hP : w3.heap.size < (w3.alloc (.cells #[.int .i64 a] 3)).heap.size := by rw [hsz]; omega
      generalize w3.alloc (.cells #[.int .i64 a] 3) = wq at *
      rw [← hsz]
      have HQ := Lib.hid (HB2.out.trans (hbq.mono HB2.out.size))
      clear hsz hbq
      generalize w3.heap.size = P at hP HPL ⊢
      have hO0 : (wq.alloc (.cells #[] 9)).ownsRow wq.heap.size 9 1 (.slice (some ⟨wq.heap.size, 0, none⟩) 0 0) 0 [] := own_lit wq #[] _ 1 0 _ (Nat.le_refl _) rfl (by omega)
      have HO0 := Lib.hid hO0
      clear hO0
      go_loopw [10, 43] (fun v i wr => ∃ (t : Nat) (ts : List ByteArray), i = .int .i64 t ∧ t ≤ 1 ∧ ts.length ≤ t ∧ Hid (wr.ownsRow wq.heap.size 9 1 v ts.length (ts.map Value.string)) ∧ Hid (∀ y ∈ ts, Refused y) ∧ Hid (Below wq.heap.size wq wr)) (fun _ i _ => 1 - (intOf i).toNat)
      case atStart => exact ⟨0, [], rfl, Nat.zero_le _, Nat.le_refl _, HO0, Lib.hid (fun y hy => by cases hy), Lib.hid ((Below.refl _ _).alloc (Nat.le_refl _) _)⟩
      case round =>
        obtain ⟨t, ts, rfl, ht, hlt, HO, HR, HBQ⟩ := hrel
        by_cases htl : t < 1
        · obtain ⟨p, hc, hpm, hps⟩ := HPL.out t htl
          have hc1 := (HBQ.out.cell (p := ⟨P, t, none⟩) hP).trans hc
          have htl' : (t : Int) < 1 := by omega
          have hps' : (p : Int) < (S.size : Int) := by omega
          have HM := Lib.hid (And.intro hpm hps)
          clear hc hpm
          by_cases hm : (S[p]'hps).toNat = X
          · have m1 : (((S[p]'hps).toNat : Int) != X) = false := by rw [bne_eq_false_iff_eq]; omega
            have m2 : ((S[p]'hps).toNat != X) = false := by rw [bne_eq_false_iff_eq]; exact hm
            clear hm
            go_wp2
            go_roundw
            case rel => exact ⟨t + 1, ts, by go_num, by omega, by omega, HO, HR, HBQ⟩
            case measure => simp [intOf]; omega
          · have m1 : (((S[p]'hps).toNat : Int) != X) = true := by rw [bne_iff_ne]; omega
            have m2 : ((S[p]'hps).toNat != X) = true := by rw [bne_iff_ne]; exact hm
            have HNM := Lib.hid hm
            clear hm
            have hdr : Below wr.heap.size wr wr.drew := ⟨rfl, rfl, rfl, Nat.le_refl _, fun _ _ => rfl⟩
            have hwrap : IntKind.i64.wrap ((p : Int) + 1) = (p : Int) + 1 := by rw [IntKind.wrap_i64]; omega
            have z1 : (0 : Int) ≤ (p : Int) := by omega
            have z2 : (0 : Int) ≤ (p : Int) + 1 := by omega
            have z3 : (p : Int) ≤ (S.size : Int) := by omega
            have z4 : (p : Int) + 1 ≤ (S.size : Int) := by omega
            have hsz1 : (S.extract 0 p).size = p := by rw [ByteArray.size_extract]; omega
            have hsz2 : (S.extract (p + 1) S.size).size = S.size - (p + 1) := by rw [ByteArray.size_extract]; omega
            have hsz3 : (⟨#[x]⟩ : ByteArray).size = 1 := rfl
            have s1 : ¬ 9223372036854775807 < p + 1 := by omega
            have s2 : ¬ 9223372036854775807 < p + 1 + (S.size - (p + 1)) := by omega
            go_wp2_with fail
            refine region_pick (Below wr.heap.size wr) [(0, false, none), (1, false, none), (2, false, none), (3, false, none), (4, false, none), (8, false, none), (9, false, none), (10, false, none), (11, false, none), (5, true, none), (6, false, none), (7, false, none), (12, false, none), (13, true, none)] 14 (by kernel_rfl) (by kernel_rfl) (fun w w' h hb => h.trans (hb.mono h.size)) (hdr) ?_
            simp only [pickOps, List.getElem?_cons_zero, List.getElem?_cons_succ]
            repeat (first | (refine t_skip rfl ?_; (simp only [Act.put, List.setIfInBounds_toArray, List.set_cons_zero, List.set_cons_succ])) | (refine t_run ?_ rfl (fun w1 hw1 => ?_) ?_; rotate_left; (have r0 := hwrap; have r1 := z1; have r2 := z2; have r3 := z3; have r4 := z4; go_simp; try (with_reducible rfl)); (simp only [Act.put, List.setIfInBounds_toArray, List.set_cons_zero, List.set_cons_succ])))
            refine t_new (fun v w' => LitRow 0 5 1 1 [.int .u8 x.toNat] v w') (by rfl) (fun v w w' h hb => h.keep hb) (fun w1 hw1 => ?_) ?_
            refine ⟨?_, ?_, ?_, ?_, ?_⟩
            rotate_left 2
            (go_simp; first | (refine ⟨?_, ?_⟩ <;> with_reducible rfl) | with_reducible rfl)
            exact ⟨_, rfl, by rw [HXX.out]; exact own_lit w1 #[.int .u8 x.toNat] _ 1 1 _ (Nat.zero_le _) rfl (by omega)⟩
            exact (Below.refl _ _).alloc (Nat.le_refl _) _
            rintro v5 ⟨-, -, g5, rfl, -⟩
            (simp only [Act.put, List.setIfInBounds_toArray, List.set_cons_zero, List.set_cons_succ])
            repeat (first | (refine t_skip rfl ?_; (simp only [Act.put, List.setIfInBounds_toArray, List.set_cons_zero, List.set_cons_succ])) | (refine t_run ?_ rfl (fun w1 hw1 => ?_) ?_; rotate_left; (have r0 := one_conv hw1.2.own; have r1 := hsz1; have r2 := hsz2; have r3 := hsz3; have r4 := s1; have r5 := s2; go_simp; try (with_reducible rfl)); (simp only [Act.put, List.setIfInBounds_toArray, List.set_cons_zero, List.set_cons_succ])))
            have hrf : Refused (ba (markT (gT bs u) p x)) := (mark_refused HS.out.2.2.2.1 hp2 HM.out.1 (fun h => by
              rw [mark_at HS.out.1 hps] at h
              injection h with h
              exact HNM.out (by rw [h, ← HXX.out]))).2
            rw [mark_text HS.out.1 p x]
            generalize ba (markT (gT bs u) p x) = T at hrf ⊢
            have HRF := Lib.hid hrf
            clear hrf
            refine t_new (fun v w' => LitRow 0 9 1 1 [.string T] v w') (by rfl) (fun v w w' h hb => h.keep hb) (fun w1 hw1 => ?_) ?_
            refine ⟨?_, ?_, ?_, ?_, ?_⟩
            rotate_left 2
            (go_simp; first | (refine ⟨?_, ?_⟩ <;> with_reducible rfl) | with_reducible rfl)
            exact ⟨_, rfl, own_lit w1 #[.string T] _ 1 1 _ (Nat.zero_le _) rfl (by omega)⟩
            exact (Below.refl _ _).alloc (Nat.le_refl _) _
            rintro v7 ⟨-, -, g7, rfl, -⟩
            (simp only [Act.put, List.setIfInBounds_toArray, List.set_cons_zero, List.set_cons_succ])
            intro w7 ⟨⟨hw7, _⟩, hl7⟩
            simp only [List.drop_succ_cons, List.drop_zero]
            obtain ⟨g', hg1', hg2', hg3'⟩ := own_some hl7.own (by omega)
            injection hg1' with hg1'
            injection hg1' with hg1'
            subst hg1'
            have hO7 := own_below HO.out hw7
            have hs7 : wq.heap.size ≤ w7.heap.size := Nat.le_trans HBQ.out.size hw7.size
            have HO7 := Lib.hid hO7
            have HB7 := Lib.hid (HBQ.out.trans (hw7.mono HBQ.out.size))
            have HC := Lib.hid hg3'
            clear hO7 hg3' hl7 hw7
            go_wp2_with (at_builtin; refine wpList_append_own _ rfl _ _ 32 rfl wq.heap.size 9 i0 (.string ⟨#[]⟩) 1 16 Tryd.underlying32 hi hz0 hz1 hz2 rfl (by decide) _ _ _ rfl HO7.out ⟨g7, 0, none⟩ _ _ [.string T] rfl rfl (fun j u hj => by rw [add_zero_off, Nat.zero_add]; exact HC.out j u hj) (by intro u hu; rw [List.mem_singleton.1 hu]; rfl) (by unfold maxLen; omega) (by omega) hs7 ?_)
            intro v8 w8 hown8 hgrow _
            have hb8 := HB7.out.grown hgrow HB7.out.size (own_row_ge HO7.out)
            have ho8 : w8.ownsRow wq.heap.size 9 1 v8 (ts ++ [T]).length ((ts ++ [T]).map Value.string) := by rw [List.length_append, List.map_append]; exact hown8
            have hr8 : ∀ y ∈ ts ++ [T], Refused y := fun y hy => by
              rcases List.mem_append.1 hy with hy | hy
              · exact HR.out y hy
              · rw [List.mem_singleton.1 hy]; exact HRF.out
            have hl8 : (ts ++ [T]).length ≤ t + 1 := by rw [List.length_append, List.length_singleton]; omega
            generalize ts ++ [T] = ts8 at ho8 hr8 hl8
            have G1 := Lib.hid ho8
            have G2 := Lib.hid hr8
            have G3 := Lib.hid hb8
            clear ho8 hr8 hb8 hown8 hgrow HO7 HB7 HC
            go_wp2
            go_roundw
            case rel => exact ⟨t + 1, ts8, by go_num, by omega, hl8, G1, G2, G3⟩
            case measure => simp [intOf]; omega
        · obtain rfl : t = 1 := by omega
          obtain ⟨A6, c6, rfl⟩ := own_slice HO.out
          have hb6 := HQ.out.trans (HBQ.out.mono HQ.out.size)
          have hpe := portEach_t A6 ts.length c6 ts (List.replicate ts.length none) z wr (hz.keep hb6) ⟨rfl, RC.of_own HO.out⟩ (by simp) (fun i t o h1 h2 => by
            obtain rfl : o = none := List.eq_of_mem_replicate (List.mem_of_getElem? h2)
            exact HR.out t (List.mem_of_getElem? h1) z wr (hz.keep hb6)) (by omega)
          have HPE := Lib.hid (And.intro hpe hb6)
          clear hpe hb6
          go_wp2_with fail
          refine HPE.out.1.mono ?_
          rintro e7 w7 ⟨v7, rfl, ⟨A8, c8, A9, c9, es, rfl, -, hro, -⟩, hb7⟩
          have hbw7 := HPE.out.2.trans (hb7.mono HPE.out.2.size)
          have HRO := Lib.hid (And.intro hro hbw7)
          clear hro hbw7 hb7 HPE HO HR HBQ
          generalize ts.length = k at *
          go_wp2_with fail
          go_loopw [75] (fun i wr2 => ∃ j : Nat, i = .int .i64 j ∧ j ≤ k ∧ Hid (Below w7.heap.size w7 wr2)) (fun i _ => k - (intOf i).toNat)
          case atStart => exact ⟨0, rfl, Nat.zero_le _, Lib.hid (Below.refl _ _)⟩
          case round =>
            obtain ⟨j, rfl, hj, hbj⟩ := hrel
            by_cases hjl : j < k
            · obtain ⟨g9, o9, o, hA9, hg9, hok, hd0⟩ := (HRO.out.1.keep hbj.out).at hjl
              subst hA9
              obtain rfl : o = none := List.eq_of_mem_replicate (List.mem_of_getElem? hok)
              rw [show GOut.ok none = false from rfl] at hd0
              have hjl' : (j : Int) < (k : Int) := by omega
              clear hok
              go_wp2
              go_roundw
              case rel => exact ⟨j + 1, by go_num, by omega, hbj⟩
              case measure => simp [intOf]; omega
            · obtain rfl : j = k := by omega
              have hbe := HRO.out.2.trans (hbj.out.mono HRO.out.2.size)
              go_wp2
              go_returns
              exact ⟨by simp, hbe⟩
  · have hf : (n == 4 || n == 16) = false := by simpa using hl
    rw [hf]
    go_wp2_with fail
    go_returns
    exact ⟨rfl, hb0⟩
end Go.Proofs.YtaofindlomkbbaaDoor
