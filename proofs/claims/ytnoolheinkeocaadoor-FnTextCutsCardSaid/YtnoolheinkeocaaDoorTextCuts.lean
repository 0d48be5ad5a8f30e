/-
  The walk of laws.FnTextCuts.
-/
import Derived.Test.YtnoolheinkeocaaDoorCutR
import Derived.Test.YtnoolheinkeocaaDoorSame
import Derived.Test.YtnoolheinkeocaaDoorPeR
import Derived.Test.YtnoolheinkeocaaDoorStrs
import Derived.Test.YtnoolheinkeocaaDoorRegion3
namespace Go.Proofs.YtnoolheinkeocaaDoor
open Go Go.RowKit
theorem madeZ_len (l : List (List UInt8 × UInt8)) : (madeZ l).length ≤ l.length := by
  unfold madeZ; rw [List.length_map]; exact List.length_filter_le _ _
theorem pfT_len (p : List UInt8 × Nat) : (pfT p).length = (Tx.adT p.1).length + 1 + (Tx.decT p.2).length := by unfold pfT; simp; omega
/-- The only slash of a prefix's text. -/
theorem slash_iff {e : Pf} (hv : Vp e.is) {S : ByteArray} (hS : S.data.toList = pfT e.is) (t : Nat) (h : t < S.size) : (S[t]'h).toNat = 47 ↔ t = (Tx.adT e.bs).length := by
  have h47 := ad_no hv.1 (c := 47) (by decide) (by decide) (by decide)
  have hat := at_list S t h
  have hdig : ∀ c ∈ Tx.decT e.k, c ≠ 47 := fun c hc => by
    have := digs_dec (x := e.k) (by have := hv.2; rcases hv.1 with h | h <;> simp only [Pf.is] at h this <;> omega) c hc
    rintro rfl; revert this; decide
  have hg : (pfT e.is)[t]? = some (S[t]'h) := by
    rw [← hS]
    have := congrArg (fun l => l[0]?) hat
    simpa using this
  change (Tx.adT e.bs ++ 47 :: Tx.decT e.k)[t]? = _ at hg
  constructor
  · intro hx
    have hx' : S[t]'h = 47 := UInt8.toNat_inj.1 hx
    rw [hx'] at hg
    rcases Nat.lt_trichotomy t (Tx.adT e.bs).length with hl | hl | hl
    · rw [List.getElem?_append_left hl] at hg
      exact absurd (List.mem_of_getElem? hg) h47
    · exact hl
    · rw [List.getElem?_append_right (Nat.le_of_lt hl)] at hg
      obtain ⟨d, hd⟩ : ∃ d, t - (Tx.adT e.bs).length = d + 1 := ⟨t - (Tx.adT e.bs).length - 1, by omega⟩
      rw [hd, List.getElem?_cons_succ] at hg
      exact absurd rfl (hdig 47 (List.mem_of_getElem? hg))
  · rintro rfl
    rw [List.getElem?_append_right (Nat.le_refl _), Nat.sub_self] at hg
    injection hg with hg
    rw [← hg]; rfl
theorem cut_ext {S : ByteArray} {l : List UInt8} (h : S.data.toList = l) (q : Nat) : S.extract 0 q = ⟨(l.take q).toArray⟩ := by
  have h1 : (S.extract 0 q).data.toList = l.take q := by
    rw [extract_list]; unfold bytesIn; rw [h, List.drop_zero, Nat.sub_zero]
  cases hE : S.extract 0 q with
  | mk d => rw [hE] at h1; rw [← h1]
/-- The number that the digits behind the slash and ahead of the last byte but one spell. -/
def numAt (k sa t : Nat) : Nat := numOf ((Tx.decT k).take (t - 1 - (sa + 1)))
theorem numAt_zero (k sa : Nat) : numAt k sa 0 = 0 := by unfold numAt; rw [show 0 - 1 - (sa + 1) = 0 by omega]; rfl
theorem numAt_low {k sa t : Nat} (h : t ≤ sa + 1) : numAt k sa (t + 1) = numAt k sa t := by unfold numAt; rw [show t + 1 - 1 - (sa + 1) = 0 by omega, show t - 1 - (sa + 1) = 0 by omega]
theorem numAt_more {e : Pf} (hv : Vp e.is) {S : ByteArray} (hS : S.data.toList = pfT e.is) {sa : Nat} (hsa : sa = (Tx.adT e.bs).length) {t : Nat} (h1 : sa + 1 < t) (h2 : t < S.size) :
    numAt e.k sa (t + 1) = 10 * numAt e.k sa t + ((S[t - 1]'(by omega)).toNat - 48) ∧ 48 ≤ (S[t - 1]'(by omega)).toNat ∧ (S[t - 1]'(by omega)).toNat ≤ 57 ∧ numAt e.k sa (t + 1) ≤ e.k ∧ cutOut e.is t = some (e.bs, numAt e.k sa (t + 1)) := by
  have hk : e.k < 1000 := by have := hv.2; rcases hv.1 with h | h <;> simp only [Pf.is] at h this <;> omega
  have hlen : S.size = sa + 1 + (Tx.decT e.k).length := by rw [← str_len, hS, pfT_len, hsa]; rfl
  have hg : (Tx.decT e.k)[t - 1 - (sa + 1)]? = some (S[t - 1]'(by omega)) := by
    have hat := congrArg (fun l => l[0]?) (at_list S (t - 1) (by omega))
    simp only [List.getElem?_drop, List.getElem?_cons_zero, Nat.add_zero] at hat
    rw [hS] at hat
    change (Tx.adT e.bs ++ 47 :: Tx.decT e.k)[t - 1]? = _ at hat
    rw [List.getElem?_append_right (by omega), ← hsa, show t - 1 - sa = t - 1 - (sa + 1) + 1 by omega, List.getElem?_cons_succ] at hat
    exact hat
  have hd := digs_dec hk _ (List.mem_of_getElem? hg)
  have htk : (Tx.decT e.k).take (t + 1 - 1 - (sa + 1)) = (Tx.decT e.k).take (t - 1 - (sa + 1)) ++ [S[t - 1]'(by omega)] := by
    rw [show t + 1 - 1 - (sa + 1) = t - 1 - (sa + 1) + 1 by omega, List.take_add_one, hg]; rfl
  refine ⟨?_, hd.1, hd.2, ?_, ?_⟩
  · unfold numAt; rw [htk, numOf_snoc]; omega
  · exact (dec_take hk (by omega) (by omega)).2
  · have : cutOut e.is t = some (e.is.1, numOf ((Tx.decT e.is.2).take (t - ((Tx.adT e.is.1).length + 1)))) := if_neg (show ¬ t ≤ (Tx.adT e.bs).length + 1 by omega)
    rw [this]
    unfold numAt
    rw [hsa]
    rfl
def slashAt (a t : Nat) : Int := if a < t then a else -1
set_option maxRecDepth 100000 in
set_option maxHeartbeats 32000000 in
theorem textCuts_walk (A : Option Addr) (n c : Nat) (bs : List UInt8) (x : UInt8) (z : ZP) (w : World) (hz : Zs w z) (hr : RB w A n bs) (hR : A = none → n = 0 ∧ c = 0) (hn : n ≤ 140737488355328)
    (ev : Value) (hv : w.cell? ⟨4, 0, none⟩ = some ev) (hev : ev = .nilIface ∨ ∃ t p, ev = .iface t p) (hg : 4 < w.heap.size) :
    Calls Tryd.prog 5 #[.slice A n c, .int .u8 x.toNat] w fun e w' => e = .returned (.bool true) ∧ Below w.heap.size w w' := by
  obtain ⟨i0, hi, hz0, hz1, hz2⟩ := info_parts infoStr
  go_enter Tryd.func5, Tryd.ntmps5
  go_wp2_with fail
  have hb1 : Below w.heap.size w ((w.alloc (.cells #[.slice A n c] 22)).alloc (.cells #[.int .u8 x.toNat] 5)) := (boxes2 w _ _).below
  have h0 := (boxes2 (x0 := #[.slice A n c]) (x1 := #[.int .u8 x.toNat]) w 22 5).b0
  have h1 := (boxes2 (x0 := #[.slice A n c]) (x1 := #[.int .u8 x.toNat]) w 22 5).b1
  have hsz := (boxes2 (x0 := #[.slice A n c]) (x1 := #[.int .u8 x.toNat]) w 22 5).size
  generalize (w.alloc (.cells #[.slice A n c] 22)).alloc (.cells #[.int .u8 x.toNat] 5) = w1 at *
  have hrs : RS w1 (some ⟨w.heap.size, 0, none⟩) 1 [⟨A, n, c, bs⟩] := by
    refine ⟨rfl, fun _ => ⟨w.heap.size, 0, rfl, by simp at hsz; omega, fun i u hu => ?_⟩, fun e he => ?_⟩
    · rw [Nat.zero_add, h0 i]
      match i, hu with
      | 0, hu => exact hu
    · simp at he; subst he; exact ⟨hr.keep hb1, hR, hn⟩
  have hrx : RB w1 (some ⟨w.heap.size + 1, 0, none⟩) 1 [x] := by
    refine ⟨rfl, fun _ => ⟨w.heap.size + 1, 0, rfl, by simp at hsz; omega, fun i hi => ?_⟩⟩
    obtain rfl : i = 0 := by omega
    rw [h1 0]; rfl
  refine (made_c _ 1 1 _ _ 1 1 _ w1 hrs (by omega) hrx (by omega)).mono ?_
  rintro e0 w2 ⟨v1, rfl, ⟨A1, c1, es, rfl, hown, hmap, hin⟩, hb2⟩
  have hval := madeZ_valid ((([⟨A, n, c, bs⟩] : List En).map (·.bs)).zip [x])
  have hml := madeZ_len ((([⟨A, n, c, bs⟩] : List En).map (·.bs)).zip [x])
  rw [← hmap] at hval hml
  have hbw := hb1.trans (hb2.mono hb1.size)
  have hrp := RP.of_own hown rfl hin
  have hvs : ∀ e ∈ es, Vp e.is := fun e he => hval e.is (List.mem_map_of_mem he)
  have HRP := Lib.hid (And.intro hrp (And.intro hvs hbw))
  have hlen : es.length ≤ 1 := by rw [List.length_map] at hml; simpa using hml
  clear hown hmap hin hval hml hrs hrx h0 h1 hsz hb2 hrp hvs hbw hb1
  go_wp2_with fail
  go_loopw [21] (fun i wr => ∃ j : Nat, i = .int .i64 j ∧ j ≤ es.length ∧ Hid (Below w2.heap.size w2 wr)) (fun i _ => es.length - (intOf i).toNat)
  case atStart => exact ⟨0, rfl, Nat.zero_le _, Lib.hid (Below.refl _ _)⟩
  case round =>
    obtain ⟨j, rfl, hj, hbr⟩ := hrel
    by_cases hlt : j < es.length
    · have hb2r := HRP.out.2.2.trans (hbr.out.mono HRP.out.2.2.size)
      obtain ⟨g, o, e, hA, hg1, hek, hc0, hc1, hc2, hbe⟩ := (HRP.out.1.keep hbr.out).at hlt
      subst hA
      have hve := HRP.out.2.1 e (List.mem_of_getElem? hek)
      have HK := Lib.hid hek
      clear hek
      go_wp2_with fail
      have hbx := boxes2 (x0 := #[.slice e.a e.n e.c, .string ⟨#[]⟩, .int .i64 e.k]) (x1 := #[.slice e.a e.n e.c, .string ⟨#[]⟩, .int .i64 e.k]) wr 35 35
      generalize (wr.alloc (.cells #[.slice e.a e.n e.c, .string ⟨#[]⟩, .int .i64 e.k] 35)).alloc (.cells #[.slice e.a e.n e.c, .string ⟨#[]⟩, .int .i64 e.k] 35) = w3 at *
      have hsz3 := hbx.size
      have hrp1 : RP w3 (some ⟨wr.heap.size + 1, 0, none⟩) 1 [e] := by
        refine ⟨rfl, fun _ => ⟨wr.heap.size + 1, 0, rfl, by simp at hsz3; omega, fun i u hu => ?_⟩, fun e' he' => ?_⟩
        · rw [Nat.zero_add, hbx.b1 i, ← hu]; simp [pfCells, Pf.cells]
        · simp at he'; subst he'; exact hbe.keep hbx.below
      refine (pfStrings_c _ 1 1 [e] z w3 (hz.keep (hb2r.trans (hbx.below.mono hb2r.size))) hrp1 (by intro e' he'; simp at he'; subst he'; exact hve) (by omega)).mono ?_
      rintro e0 w4 ⟨A4, c4, rfl, hown4, hb4⟩
      obtain ⟨g4, hA4, hg4, hc4⟩ := own_some hown4 (by omega)
      subst hA4
      have hS := hc4 0 (sV (pfT e.is)) (by simp)
      obtain ⟨S, hSd⟩ : ∃ S : ByteArray, S = ⟨(pfT e.is).toArray⟩ := ⟨_, rfl⟩
      have hSl : S.data.toList = pfT e.is := by rw [hSd]
      have hSs : S.size = (pfT e.is).length := by rw [← str_len, hSl]
      unfold sV at hS
      rw [← hSd] at hS
      have hle := pfT_le e.is hve.1
      have hP4 := hbx.keep hb4
      have p0 := hP4.b0
      have hlo : wr.heap.size < w4.heap.size := by have := hP4.size; simp at this; omega
      have hbr4 := hbr.out.trans (hP4.below.mono hbr.out.size)
      have hbw4 := hb2r.trans (hP4.below.mono hb2r.size)
      have hbe4 := hbe.keep hP4.below
      have HF := Lib.hid (And.intro hbr4 (And.intro hbw4 (And.intro hbe4 (And.intro hve (And.intro hSl (And.intro hSs hSd))))))
      have hS87 : S.size ≤ 86 := by omega
      clear hown4 hc4 hSd hSl hSs hle hP4 hbr4 hbw4 hbe4 hbx hb4 hrp1 hbe hb2r hc0 hc1 hc2
      obtain ⟨wo, hwo⟩ : ∃ wo, wo = wr := ⟨_, rfl⟩
      subst hwo
      go_wp2_with fail
      obtain ⟨sa, hsa⟩ : ∃ sa, sa = (Tx.adT e.bs).length := ⟨_, rfl⟩
      have hsl : ∀ t (h : t < S.size), (S[t]'h).toNat = 47 ↔ t = sa := fun t h => by
        rw [hsa]; exact slash_iff hve HF.out.2.2.2.2.1 t h
      have hsaS : sa + 1 < S.size := by
        rw [HF.out.2.2.2.2.2.1, pfT_len, hsa]; have := Tx.decT_len e.k; simp only [Pf.is]; omega
      have HSL := Lib.hid (And.intro hsl hsa)
      clear hsl hsa
      go_loopw [8, 10, 35] (fun s v i wr => ∃ t : Nat, i = .int .i64 t ∧ t ≤ S.size ∧ s = .int .i64 (slashAt sa t) ∧ Hid (wr.ownsRow w4.heap.size 9 1 v t ((List.range t).map fun q => Value.string (S.extract 0 q))) ∧ Hid (Below w4.heap.size w4 wr)) (fun _ _ i _ => S.size - (intOf i).toNat)
      case atStart => exact ⟨0, rfl, Nat.zero_le _, rfl, Lib.hid (World.ownsRow_nil _ _ _ _), Lib.hid (Below.refl _ _)⟩
      case round =>
        obtain ⟨t, rfl, ht, rfl, hown, hbt⟩ := hrel
        have hszt := hbt.out.size
        by_cases htl : t < S.size
        · have htl' : (t : Int) < (S.size : Int) := by omega
          have hS5 : wr.cell? ⟨g4, 0, none⟩ = some (.string S) := (hbt.out.cell (p := ⟨g4, 0, none⟩) hg4).trans hS
          have hg5 := Nat.lt_of_lt_of_le hg4 hszt
          have ho3 := hown.out
          go_wp2_with ((at_builtin; refine append1 rfl _ _ 26 rfl (w4.heap.size) 9 i0 (.string ⟨#[]⟩) 1 16 Tryd.underlying26 hi hz0 hz1 hz2 rfl (by decide) _ _ _ rfl (ho3) _ _ [.string (S.extract 0 t)] rfl (by simp) rfl rfl (by unfold maxLen; omega) (by omega) (by first | omega | (simp; omega)) ?_))
          intro v6 w6 hown6 hgr6
          have hxb : Below wr.heap.size wr (wr.alloc (.cells #[.string (S.extract 0 t)] 9)) := (Below.refl _ _).alloc (Nat.le_refl _) _
          have hb6 : Below w4.heap.size w4 w6 := (hbt.out.trans (hxb.mono hszt)).grown hgr6 (Nat.le_trans hszt hxb.size) (own_row_ge ho3)
          have hS6 : w6.cell? ⟨g4, 0, none⟩ = some (.string S) := (hb6.cell (p := ⟨g4, 0, none⟩) hg4).trans hS
          have hg6 := Nat.lt_of_lt_of_le hg4 hb6.size
          have ho6 : w6.ownsRow w4.heap.size 9 1 v6 (t + 1) ((List.range (t + 1)).map fun q => Value.string (S.extract 0 q)) := by
            rw [List.range_succ, List.map_append]; exact hown6
          have G1 := Lib.hid ho6
          have G2 := Lib.hid hb6
          have hx := HSL.out.1 t htl
          clear hown6 hgr6 ho6 hb6 hxb ho3 hown hbt hS5 hg5 hszt
          by_cases hta : t = sa
          · have hx47 := hx.2 hta
            subst hta
            have q1 : slashAt t (t + 1) = t := if_pos (by omega)
            have HQ := Lib.hid q1
            clear q1 hx
            go_wp2
            go_roundw
            case rel => exact ⟨t + 1, by go_num, by omega, by rw [HQ.out], G1, G2⟩
            case measure => simp [intOf]; omega
          · have q2 : (((S[t]'htl).toNat : Int) == 47) = false := by
              rw [beq_eq_false_iff_ne]; intro h; exact hta (hx.1 (by omega))
            have q1 : slashAt sa (t + 1) = slashAt sa t := by unfold slashAt; by_cases h : sa < t <;> simp [h] <;> omega
            have HQ := Lib.hid q1
            clear q1 hx
            go_wp2
            go_roundw
            case rel => exact ⟨t + 1, by go_num, by omega, by rw [HQ.out], G1, G2⟩
            case measure => simp [intOf]; omega
        · obtain rfl : t = S.size := by omega
          have hsl : slashAt sa S.size = sa := if_pos (by omega)
          rw [hsl]
          obtain ⟨A6, c6, rfl⟩ := own_slice hown.out
          have hb6 := HF.out.2.1.trans (hbt.out.mono HF.out.2.1.size)
          have hRT : RT wr A6 S.size ((List.range S.size).map fun q => S.extract 0 q) := ⟨by simp, by rw [List.map_map]; exact RC.of_own hown.out⟩
          have hrd : ∀ (i : Nat) (t : ByteArray) (o : Out), ((List.range S.size).map fun q => S.extract 0 q)[i]? = some t → ((List.range S.size).map (cutOut e.is))[i]? = some o → Reads z wr t o := fun i t o h1 h2 => by
            by_cases hil : i < S.size
            · rw [List.getElem?_map, List.getElem?_range hil] at h1 h2
              simp only [Option.map_some, Option.some.injEq] at h1 h2
              rw [← h1, ← h2, cut_ext HF.out.2.2.2.2.1]
              exact cut_reads e.is hve i (by rw [← HF.out.2.2.2.2.2.1]; omega) z wr (hz.keep hb6) ev ((hb6.cell (p := ⟨4, 0, none⟩) hg).trans hv) hev (Nat.lt_of_lt_of_le hg hb6.size)
            · rw [List.getElem?_eq_none (by simp; omega)] at h1; cases h1
          have hpe := parseEach_c A6 S.size c6 _ _ z wr (hz.keep hb6) hRT (by simp) hrd (by omega)
          have hbe6 := HF.out.2.2.1.keep hbt.out
          have hb26 := HF.out.1.trans (hbt.out.mono HF.out.1.size)
          have p6 : ∀ i, wr.cell? ⟨wo.heap.size, i, none⟩ = #[Value.slice e.a e.n e.c, .string ⟨#[]⟩, .int .i64 e.k][i]? := fun i => (hbt.out.cell (p := ⟨wo.heap.size, i, none⟩) hlo).trans (p0 i)
          have hS6 : wr.cell? ⟨g4, 0, none⟩ = some (.string S) := (hbt.out.cell (p := ⟨g4, 0, none⟩) hg4).trans hS
          have hg6 := Nat.lt_of_lt_of_le hg4 hbt.out.size
          have hlo6 := Nat.lt_of_lt_of_le hlo hbt.out.size
          have HPE := Lib.hid (And.intro hpe (And.intro hb6 (And.intro hbe6 hb26)))
          clear hpe hb6 hbe6 hb26 hRT hrd hown hbt p0 hS hg4 hlo hszt
          go_wp2_with fail
          refine HPE.out.1.mono ?_
          rintro e5 w7 ⟨A7, c7, fs, rfl, hown7, hmap7, hin7, hb7⟩
          have hfl : fs.length = S.size := by have := congrArg List.length hmap7; simpa using this
          obtain ⟨gq, hgq⟩ : ∃ gq, gq = wo.heap.size := ⟨_, rfl⟩
          rw [← hgq] at p6 hlo6 ⊢
          rw [hfl] at hown7 ⊢
          have hre := RE.of_own hown7 hfl hin7
          have hbe7 := HPE.out.2.2.1.keep hb7
          have hbw7 := HPE.out.2.1.trans (hb7.mono HPE.out.2.1.size)
          have hb27 := HPE.out.2.2.2.trans (hb7.mono HPE.out.2.2.2.size)
          have p7 : ∀ i, w7.cell? ⟨gq, i, none⟩ = #[Value.slice e.a e.n e.c, .string ⟨#[]⟩, .int .i64 e.k][i]? := fun i => (hb7.cell (p := ⟨gq, i, none⟩) hlo6).trans (p6 i)
          have hS7 : w7.cell? ⟨g4, 0, none⟩ = some (.string S) := (hb7.cell (p := ⟨g4, 0, none⟩) hg6).trans hS6
          have hlo7 := Nat.lt_of_lt_of_le hlo6 hb7.size
          have hg7 := Nat.lt_of_lt_of_le hg6 hb7.size
          have HP7 := Lib.hid (And.intro hmap7 (And.intro hbe7 (And.intro hbw7 hb27)))
          clear hmap7 hown7 hin7 hfl hbe7 hbw7 hb27 p6 hS6 hlo6 hg6 HPE hb7 hgq hsz3 hg1 ht htl
          go_wp2_with fail
          clear hsl
          go_loopw [9, 57] (fun v i wr2 => ∃ t : Nat, i = .int .i64 t ∧ t ≤ S.size ∧ v = .int .i64 (numAt e.k sa t) ∧ Hid (Below w7.heap.size w7 wr2)) (fun _ i _ => S.size - (intOf i).toNat)
          case atStart => exact ⟨0, rfl, Nat.zero_le _, by rw [numAt_zero]; rfl, Lib.hid (Below.refl _ _)⟩
          case round =>
            obtain ⟨t, rfl, ht, rfl, hbt⟩ := hrel
            by_cases htl : t < S.size
            · obtain ⟨g8, o8, f, hA, hg8, hfk, hc0, hc1, hc2, hc3, hbf⟩ := (hre.keep hbt.out).at htl
              subst hA
              have hfo : f.is = (cutOut e.is t).is := by
                have h1 := congrArg (fun l => l[t]?) HP7.out.1
                simp only [List.getElem?_map, hfk, List.getElem?_range htl, Option.map_some, Option.some.injEq] at h1
                exact h1
              obtain ⟨f1, f2, f3⟩ := Pe.of_out hfo
              have hxa : Below wr.heap.size wr (wr.alloc (.cells #[.slice f.a f.n f.c, .string ⟨#[]⟩, .int .i64 f.k, .bool f.ok] 37)) := (Below.refl _ _).alloc (Nat.le_refl _) _
              have hbox : Blk (wr.alloc (.cells #[.slice f.a f.n f.c, .string ⟨#[]⟩, .int .i64 f.k, .bool f.ok] 37)) wr.heap.size 37 #[.slice f.a f.n f.c, .string ⟨#[]⟩, .int .i64 f.k, .bool f.ok] := heap_alloc_new _ _
              obtain ⟨gx, hgx⟩ : ∃ gx, gx = wr.heap.size := ⟨_, rfl⟩
              have hb8 := hbt.out.trans (hxa.mono hbt.out.size)
              have HX := Lib.hid (And.intro hgx (And.intro hbox (And.intro hb8 (hbf.keep hxa))))
              clear hgx hbox hxa hbf hfo hfk hb8
              have htl' : (t : Int) < (S.size : Int) := by omega
              by_cases hdue : t ≤ sa + 1
              · have hco : cutOut e.is t = none := if_pos (show t ≤ (Tx.adT e.bs).length + 1 by rw [← HSL.out.2]; exact hdue)
                have hok : f.ok = false := by rw [f3, hco]; rfl
                have HN := Lib.hid (numAt_low (k := e.k) hdue)
                rw [hok] at hc3 HX
                have q1 : ¬ (sa : Int) + 1 < (t : Int) := by omega
                have q2 : ¬ sa + 1 < t := by omega
                clear f1 f2 f3 hco hok
                go_wp2
                go_roundw
                case rel => exact ⟨t + 1, by go_num, by omega, by rw [HN.out], Lib.hid HX.out.2.2.1⟩
                case measure => simp [intOf]; omega
              · obtain ⟨n1, n2, n3, n4, n5⟩ := numAt_more hve HF.out.2.2.2.2.1 HSL.out.2 (by omega) htl
                have hok : f.ok = true := by rw [f3, n5]; rfl
                have hfb : f.bs = e.bs := by rw [f1, n5]; rfl
                have hfk : f.k = (numAt e.k sa (t + 1) : Nat) := by rw [f2, n5]; rfl
                have hk128 : e.k ≤ 128 := by have := hve.2; rcases hve.1 with h | h <;> simp only [Pf.is] at h this <;> omega
                have hm : numAt e.k sa t ≤ 12 := by omega
                obtain ⟨m', hm'⟩ : ∃ m', m' = numAt e.k sa (t + 1) := ⟨_, rfl⟩
                rw [← hm'] at hfk n1 n4
                rw [hok, hfb, hfk] at HX
                rw [hok] at hc3
                rw [hfk] at hc2
                have hS8 : wr.cell? ⟨g4, 0, none⟩ = some (.string S) := (hbt.out.cell (p := ⟨g4, 0, none⟩) hg7).trans hS7
                have hg9 := Nat.lt_of_lt_of_le hg7 hbt.out.size
                have q1 : (sa : Int) + 1 < (t : Int) := by omega
                have q2 : sa + 1 < t := by omega
                obtain ⟨t', rfl⟩ : ∃ t', t = t' + 1 := ⟨t - 1, by omega⟩
                have hat : t' < S.size := by omega
                have hy : (S[t']'hat).toNat = (S[t' + 1 - 1]'(by omega)).toNat := rfl
                rw [← hy] at n1 n2 n3
                obtain ⟨m, hmm⟩ : ∃ m, m = numAt e.k sa (t' + 1) := ⟨_, rfl⟩
                rw [← hmm] at n1 hm ⊢
                have p8 : ∀ i, wr.cell? ⟨gq, i, none⟩ = #[Value.slice e.a e.n e.c, .string ⟨#[]⟩, .int .i64 e.k][i]? := fun i => (hbt.out.cell (p := ⟨gq, i, none⟩) hlo7).trans (p7 i)
                have hlo8 := Nat.lt_of_lt_of_le hlo7 hbt.out.size
                have c80 := p8 0
                have c81 := p8 1
                simp only [List.getElem?_toArray, List.getElem?_cons_zero, List.getElem?_cons_succ] at c80 c81
                have hm2 : 10 * (m : Int) + (((S[t']'hat).toNat : Int) - 48) = ((m' : Nat) : Int) := by omega
                have hnn : f.n ≤ 9223372036854775807 := by have := HX.out.2.2.2.1; have h2 := hve.1; unfold isLen at h2; simp only [Pf.is] at h2; omega
                have HN := Lib.hid (And.intro hm' (And.intro hm2 hnn))
                clear f1 f2 f3 n5 hok hfb hfk hdue hm' hmm n1 hy hm2 p8 hnn
                go_wp2_with fail
                rw [HN.out.2.1]
                have hbe8 := HP7.out.2.1.keep HX.out.2.2.1
                refine (samePf_c f.a e.a f.n e.n f.c e.c e.bs e.bs m' m' _ HX.out.2.2.2 hbe8 HN.out.2.2).mono ?_
                rintro e9 w9 ⟨rfl, hb9⟩
                rw [show decide ((e.bs, m') = (e.bs, m')) = true from decide_eq_true rfl]
                have HB := Lib.hid (HX.out.2.2.1.trans (hb9.mono HX.out.2.2.1.size))
                clear hbe8 hb9
                go_wp2
                go_roundw
                case rel => exact ⟨t' + 1 + 1, by go_num, by omega, by rw [← HN.out.1], HB⟩
                case measure => simp [intOf]; omega
            · obtain rfl : t = S.size := by omega
              have hb2 := HP7.out.2.2.2.trans (hbt.out.mono HP7.out.2.2.2.size)
              have HB2 := Lib.hid hb2
              clear hb2
              go_wp2
              go_roundw
              case rel => exact ⟨j + 1, by go_num, by omega, HB2⟩
              case measure => simp [intOf]; omega
    · obtain rfl : j = es.length := by omega
      go_wp2
      go_returns
      exact ⟨rfl, HRP.out.2.2.trans (hbr.out.mono HRP.out.2.2.size)⟩
end Go.Proofs.YtnoolheinkeocaaDoor
