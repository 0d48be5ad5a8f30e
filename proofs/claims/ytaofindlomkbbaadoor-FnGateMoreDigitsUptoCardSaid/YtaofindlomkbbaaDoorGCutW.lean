/-
  The walk of laws.FnGateCutText.
-/
import Derived.Test.YtaofindlomkbbaaDoorGCut
import Derived.Test.YtaofindlomkbbaaDoorGText
import Derived.Test.YtaofindlomkbbaaDoorSame
import Derived.Test.YtaofindlomkbbaaDoorPlain
import Derived.Test.YtaofindlomkbbaaDoorEqual
namespace Go.Proofs.YtaofindlomkbbaaDoor
open Go Go.RowKit
theorem i64_and65535 (n : Int) : bits .and .i64 n 65535 = n % 65536 := by
  have h1 : (BitVec.ofInt 64 65535).toNat = 2 ^ 16 - 1 := by decide
  have key : (BitVec.ofInt 64 n &&& BitVec.ofInt 64 65535).toNat = (n % ((2 ^ 64 : Nat) : Int)).toNat % 2 ^ 16 := by
    rw [BitVec.toNat_and, BitVec.toNat_ofInt, h1, Nat.and_two_pow_sub_one_eq_mod]
  show IntKind.i64.wrap ((BitVec.ofInt 64 n &&& BitVec.ofInt 64 65535).toNat : Nat) = n % 65536
  rw [key, IntKind.wrap_i64]
  omega
def portN (n : Int) : Nat := (n % 65536).toNat
theorem portN_lt (n : Int) : portN n < 65536 := by unfold portN; omega
theorem portN_and (n : Int) : bits .and .i64 n 65535 = (portN n : Int) := by rw [i64_and65535]; unfold portN; omega
theorem wrap_u16 (n : Nat) (h : n < 65536) : IntKind.u16.wrap (n : Int) = n := by
  show (n : Int) % 65536 = n
  omega
theorem RG.of_ownT {w : World} {B b2 : Nat} {A : Option Addr} {n c : Nat} {es : List Gt} (h : w.ownsRow b2 30 3 (.slice A n c) n (gtCells es)) (hl : es.length = n) (hi : ownGt w B es) : RG w A n es :=
  ⟨hl, RC.of_own h, fun e he => by obtain ⟨t, _, h1⟩ := hi e he; exact RB.of_own h1⟩
/-- Answers that can be read. -/
def RO (w : World) (A : Option Addr) (n : Nat) (os : List GOut) : Prop := os.length = n ∧ RC w A (okCells os)
theorem RO.keep {w w' : World} {A : Option Addr} {n : Nat} {os : List GOut} (h : RO w A n os) (hb : Below w.heap.size w w') : RO w' A n os := ⟨h.1, h.2.keep hb⟩
theorem RO.at {w : World} {A : Option Addr} {n : Nat} {os : List GOut} (h : RO w A n os) {i : Nat} (hi : i < n) : ∃ g p o, A = some ⟨g, p, none⟩ ∧ g < w.heap.size ∧ os[i]? = some o ∧ w.cell? ⟨g, p + i, none⟩ = some (.bool o.ok) := by
  have hl : i < os.length := by rw [h.1]; exact hi
  obtain ⟨g, p, hA, hg, hc⟩ := h.2 (by unfold okCells; rw [List.length_map]; omega)
  exact ⟨g, p, os[i], hA, hg, List.getElem?_eq_getElem hl, hc i _ (by unfold okCells; simp [hl])⟩
theorem cut_ext {S : ByteArray} {l : List UInt8} (h : S.data.toList = l) (q : Nat) : S.extract 0 q = ba (l.take q) := by
  refine ba_of ?_
  rw [extract_list]; unfold bytesIn; rw [h, List.drop_zero, Nat.sub_zero]
/-- The number that the digits behind the colon and ahead of the last byte but one spell. -/
def gnum (u a t : Nat) : Nat := numA 0 ((Lib.decDigits u).take (t - 1 - (a + 1)))
theorem gnum_zero (u a : Nat) : gnum u a 0 = 0 := by unfold gnum; rw [show 0 - 1 - (a + 1) = 0 by omega]; rfl
theorem gnum_low {u a t : Nat} (h : t ≤ a + 1) : gnum u a (t + 1) = gnum u a t := by unfold gnum; rw [show t + 1 - 1 - (a + 1) = 0 by omega, show t - 1 - (a + 1) = 0 by omega]
theorem gnum_more {bs : List UInt8} {u : Nat} {S : ByteArray} (hS : S.data.toList = gT bs u) {a : Nat} (ha : a = (gA bs).length) {t : Nat} (h1 : a + 1 < t) (h2 : t ≤ S.size) :
    gnum u a (t + 1) = 10 * gnum u a t + ((S[t - 1]'(by omega)).toNat - 48) ∧ 48 ≤ (S[t - 1]'(by omega)).toNat ∧ (S[t - 1]'(by omega)).toNat ≤ 57 ∧ gnum u a (t + 1) ≤ u ∧ gcut bs u t = some (bs, gnum u a (t + 1)) := by
  have hlen : S.size = a + 1 + (Lib.decDigits u).length := by rw [← str_len, hS, gT_gA, ha, List.length_append, List.length_cons]; omega
  have hg : (Lib.decDigits u)[t - 1 - (a + 1)]? = some (S[t - 1]'(by omega)) := by
    have hat := congrArg (fun l => l[0]?) (at_list S (t - 1) (by omega))
    simp only [List.getElem?_drop, List.getElem?_cons_zero, Nat.add_zero] at hat
    rw [hS, gT_gA, List.getElem?_append_right (by omega), ← ha, show t - 1 - a = t - 1 - (a + 1) + 1 by omega, List.getElem?_cons_succ] at hat
    exact hat
  have hd := dd_digs u _ (List.mem_of_getElem? hg)
  have htk : (Lib.decDigits u).take (t + 1 - 1 - (a + 1)) = (Lib.decDigits u).take (t - 1 - (a + 1)) ++ [S[t - 1]'(by omega)] := by
    rw [show t + 1 - 1 - (a + 1) = t - 1 - (a + 1) + 1 by omega, List.take_add_one, hg]; rfl
  refine ⟨?_, hd.1, hd.2, ?_, ?_⟩
  · unfold gnum; rw [htk, numA_append]; show _ * 10 + _ = _; omega
  · have := take_le (Lib.decDigits u) (t + 1 - 1 - (a + 1))
    rw [dd_num] at this
    exact this
  · unfold gcut gnum
    rw [if_neg (by omega), ← ha, show t + 1 - 1 - (a + 1) = t - (a + 1) by omega]
/-- What plain hands back, as a new value of a region. -/
def PlT (n : Nat) (bs : List UInt8) (v : Value) (w : World) : Prop := ∃ A c, v = .agg #[.slice A n c, .string ⟨#[]⟩] ∧ RB w A n bs
theorem PlT.keep {n : Nat} {bs : List UInt8} {v : Value} {w w' : World} (h : PlT n bs v w) (hb : Below w.heap.size w w') : PlT n bs v w' := by
  obtain ⟨A, c, h1, h2⟩ := h
  exact ⟨A, c, h1, h2.keep hb⟩
theorem PlT.rb {n c : Nat} {A : Option Addr} {bs : List UInt8} {w : World} (h : PlT n bs (.agg #[.slice A n c, .string ⟨#[]⟩]) w) : RB w A n bs := by
  obtain ⟨A', c', h1, h2⟩ := h
  injection h1 with h1
  simp only [Array.mk.injEq, List.cons.injEq, Value.slice.injEq, and_true] at h1
  obtain ⟨rfl, -, rfl⟩ := h1
  exact h2
set_option maxRecDepth 100000 in
set_option maxHeartbeats 32000000 in
theorem gateCut_walk (A : Option Addr) (n c : Nat) (bs : List UInt8) (N : Int) (z : ZP) (w : World) (hz : Zs w z) (hpw : PW w) (hr : RB w A n bs) (hR : A = none → n = 0 ∧ c = 0) (hn : n ≤ 140737488355328) :
    Calls Tryd.prog 3 #[.slice A n c, .int .i64 N] w fun e w' => e = .returned (.bool true) ∧ Below w.heap.size w w' := by
  obtain ⟨i0, hi, hz0, hz1, hz2⟩ := info_parts infoStr
  have hbl := hr.1
  have hpx := portN_and N
  have hp2 := portN_lt N
  have hp3 := wrap_u16 _ hp2
  generalize portN N = u at *
  go_enter Tryd.func3, Tryd.ntmps3
  go_wp2_with fail
  refine (isAddress_c A n c w).mono ?_
  rintro e w0 ⟨rfl, hb0⟩
  by_cases hl : (n == 4 || n == 16) = true
  · rw [hl]
    have hlen : isLen bs.length := by rw [hbl]; simpa [isLen] using hl
    go_wp2_with fail
    refine (plain_c A n c bs w0 (hr.keep hb0) hR hn).mono ?_
    rintro e w1 ⟨A1, c1, rfl, hown1, hb1'⟩
    have hb1 := hb0.trans (hb1'.mono hb0.size)
    have hr1 := RB.of_own hown1
    clear hown1 hb1' hb0
    go_wp2_with fail
    refine (gateText_c A1 n c1 bs u z w1 (hz.keep hb1) hr1 hlen hp2 (hpw.keep hb1)).mono ?_
    rintro e w2 ⟨rfl, hb2'⟩
    have hb2 := hb1.trans (hb2'.mono hb1.size)
    obtain ⟨S, hS⟩ : ∃ S : ByteArray, S = ba (gT bs u) := ⟨_, rfl⟩
    rw [show (⟨(gT bs u).toArray⟩ : ByteArray) = S from hS.symm]
    have hSl : S.data.toList = gT bs u := by rw [hS]; rfl
    obtain ⟨a, ha⟩ : ∃ a, a = (gA bs).length := ⟨_, rfl⟩
    have hdp : 0 < (Lib.decDigits u).length := List.length_pos_iff.2 (dd_ne u)
    have hdl := dd_len hp2
    have hSs : S.size = a + 1 + (Lib.decDigits u).length := by rw [← str_len, hSl, gT_gA, ha, List.length_append, List.length_cons]; omega
    have hal : a ≤ 84 := by
      have := adT_le hlen
      have h2 := gA_len (bs := bs)
      rw [ha]; split at h2 <;> omega
    have hlx : lix S.data.toList 58 S.size = a := by
      rw [← str_len, hSl, gT_gA, ha]; exact lix_all (digs_no58 (dd_digs u))
    have HLX := Lib.hid hlx
    have HS := Lib.hid (And.intro hSl (And.intro ha (And.intro hSs hlen)))
    have hS1 : a + 1 < S.size := by omega
    have hS2 : S.size ≤ 90 := by omega
    clear hlx hSl ha hSs hS hdp hdl hb2' hb1 hr1
    go_wp2_with fail
    refine (lastColon_c S w2 (by omega)).mono ?_
    rintro e w3 ⟨rfl, rfl⟩
    rw [HLX.out]
    have q1 : ¬ (a : Int) < 0 := by omega
    have q2 : ((a : Int) + 1 == (S.size : Int)) = false := by rw [beq_eq_false_iff_ne]; omega
    have q3 : (a + 1 == S.size) = false := by rw [beq_eq_false_iff_ne]; omega
    have HB2 := Lib.hid hb2
    clear hb2
    have ho : (w3.alloc (.cells #[] 9)).ownsRow w3.heap.size 9 1 (.slice (some ⟨w3.heap.size, 0, none⟩) 0 0) 0 [] := own_lit w3 #[] _ 1 0 _ (Nat.le_refl _) rfl (by omega)
    have HO := Lib.hid ho
    clear ho
    go_wp2_with fail
    go_loopw [7, 38] (fun v i wr => ∃ t : Nat, i = .int .i64 t ∧ t ≤ S.size + 1 ∧ Hid (wr.ownsRow w3.heap.size 9 1 v t ((List.range t).map fun q => Value.string (S.extract 0 q))) ∧ Hid (Below w3.heap.size w3 wr)) (fun _ i _ => S.size + 1 - (intOf i).toNat)
    case atStart => exact ⟨0, rfl, Nat.zero_le _, HO, Lib.hid ((Below.refl _ _).alloc (Nat.le_refl _) _)⟩
    case round =>
      obtain ⟨t, rfl, ht, hown, hbt⟩ := hrel
      have hszt := hbt.out.size
      by_cases htl : t < S.size + 1
      · have htl' : (t : Int) < (S.size : Int) + 1 := by omega
        have htl2 : (t : Int) ≤ (S.size : Int) := by omega
        have ho3 := hown.out
        go_wp2_with ((at_builtin; refine append1 rfl _ _ 32 rfl (w3.heap.size) 9 i0 (.string ⟨#[]⟩) 1 16 Tryd.underlying32 hi hz0 hz1 hz2 rfl (by decide) _ _ _ rfl (ho3) _ _ [.string (S.extract 0 t)] rfl (by simp) rfl rfl (by unfold maxLen; omega) (by omega) (by first | omega | (simp; omega)) ?_))
        intro v6 w6 hown6 hgr6
        have hxb : Below wr.heap.size wr (wr.alloc (.cells #[.string (S.extract 0 t)] 9)) := (Below.refl _ _).alloc (Nat.le_refl _) _
        have hb6 : Below w3.heap.size w3 w6 := (hbt.out.trans (hxb.mono hszt)).grown hgr6 (Nat.le_trans hszt hxb.size) (own_row_ge ho3)
        have ho6 : w6.ownsRow w3.heap.size 9 1 v6 (t + 1) ((List.range (t + 1)).map fun q => Value.string (S.extract 0 q)) := by
          rw [List.range_succ, List.map_append]; exact hown6
        have G1 := Lib.hid ho6
        have G2 := Lib.hid hb6
        clear hown6 hgr6 ho6 hb6 hxb ho3 hown hbt hszt
        go_wp2
        go_roundw
        case rel => exact ⟨t + 1, by go_num, by omega, G1, G2⟩
        case measure => simp [intOf]; omega
      · obtain rfl : t = S.size + 1 := by omega
        obtain ⟨A6, c6, rfl⟩ := own_slice hown.out
        have hb6 := HB2.out.trans (hbt.out.mono HB2.out.size)
        have hRT : RT wr A6 (S.size + 1) ((List.range (S.size + 1)).map fun q => S.extract 0 q) := ⟨by simp, by rw [List.map_map]; exact RC.of_own hown.out⟩
        have hrd : ∀ (i : Nat) (t : ByteArray) (o : GOut), ((List.range (S.size + 1)).map fun q => S.extract 0 q)[i]? = some t → ((List.range (S.size + 1)).map (gcut bs u))[i]? = some o → GReads z wr t o := fun i t o h1 h2 => by
          by_cases hil : i < S.size + 1
          · rw [List.getElem?_map, List.getElem?_range hil] at h1 h2
            simp only [Option.map_some, Option.some.injEq] at h1 h2
            rw [← h1, ← h2, cut_ext HS.out.1]
            exact gcut_reads bs u hlen hp2 i (by rw [← HS.out.1, str_len]; omega) z wr (hz.keep hb6)
          · rw [List.getElem?_eq_none (by simp; omega)] at h1; cases h1
        have hpe := portEach_c A6 (S.size + 1) c6 _ _ z wr (hz.keep hb6) hRT (by simp) hrd (by omega)
        have HPE := Lib.hid (And.intro hpe hb6)
        clear hpe hRT hrd hown hbt hszt hb6
        rw [show (((S.size + 1 : Nat)) : Int) = (S.size : Int) + 1 from rfl]
        go_wp2_with fail
        refine HPE.out.1.mono ?_
        rintro e7 w7 ⟨A7, c7, fs, A8, c8, rfl, hown7, hok7, hmap7, hin7, hb7⟩
        obtain ⟨os, hos⟩ : ∃ os, os = (List.range (S.size + 1)).map (gcut bs u) := ⟨_, rfl⟩
        rw [← hos] at hok7 hmap7 ⊢
        have hol : os.length = S.size + 1 := by rw [hos]; simp
        have hfl : fs.length = S.size + 1 := by have := congrArg List.length hmap7; rw [List.length_map, List.length_map, hol] at this; exact this
        rw [hfl] at hown7 ⊢
        rw [hol] at hok7 ⊢
        have hrg := RG.of_ownT hown7 hfl hin7
        have hro : RO w7 A8 (S.size + 1) os := ⟨hol, RC.of_own hok7⟩
        have hbw7 := HPE.out.2.trans (hb7.mono HPE.out.2.size)
        have HP7 := Lib.hid (And.intro hmap7 (And.intro hos hbw7))
        clear hmap7 hown7 hin7 hok7 hfl hol hos hbw7 HPE hb7 ht htl
        go_wp2_with fail
        go_loopw [11, 67] (fun v i wr2 => ∃ t : Nat, i = .int .i64 t ∧ t ≤ S.size + 1 ∧ v = .int .i64 (gnum u a t) ∧ Hid (Below w7.heap.size w7 wr2)) (fun _ i _ => S.size + 1 - (intOf i).toNat)
        case atStart => exact ⟨0, rfl, Nat.zero_le _, by rw [gnum_zero]; rfl, Lib.hid (Below.refl _ _)⟩
        case round =>
          obtain ⟨t, rfl, ht, rfl, hbt⟩ := hrel
          by_cases htl : t < S.size + 1
          · obtain ⟨g8, o8, f, hA, hg8, hfk, hc0, hc1, hc2, hbf⟩ := (hrg.keep hbt.out).at htl
            subst hA
            obtain ⟨g9, o9, o, hA9, hg9, hok, hd0⟩ := (hro.keep hbt.out).at htl
            subst hA9
            have hoo : o = gcut bs u t := by
              rw [HP7.out.2.1, List.getElem?_map, List.getElem?_range htl] at hok
              injection hok with hok
              exact hok.symm
            have hfo : f.is = (gcut bs u t).is := by
              have h1 := congrArg (fun l => l[t]?) HP7.out.1
              rw [HP7.out.2.1] at h1
              simp only [List.getElem?_map, hfk, List.getElem?_range htl, Option.map_some, Option.some.injEq] at h1
              exact h1
            have htl' : (t : Int) < (S.size : Int) + 1 := by omega
            subst hoo
            clear hok hfk
            by_cases hdue : t ≤ a + 1
            · have hco : gcut bs u t = none := if_pos (by rw [← HS.out.2.1]; exact hdue)
              rw [hco] at hd0
              have HN := Lib.hid (gnum_low (u := u) hdue)
              have q4 : (t : Int) ≤ (a : Int) + 1 := by omega
              clear hfo hco
              go_wp2
              go_roundw
              case rel => exact ⟨t + 1, by go_num, by omega, by rw [HN.out], hbt⟩
              case measure => simp [intOf]; omega
            · obtain ⟨n1, n2, n3, n4, n5⟩ := gnum_more HS.out.1 HS.out.2.1 (by omega) (show t ≤ S.size by omega)
              have hok : (gcut bs u t).ok = true := by rw [n5]; rfl
              have hfb : f.bs = bs := by have := congrArg Prod.fst hfo; rw [n5] at this; exact this
              have hfp : f.p = gnum u a (t + 1) := by have := congrArg Prod.snd hfo; rw [n5] at this; exact this
              obtain ⟨m', hm'⟩ : ∃ m', m' = gnum u a (t + 1) := ⟨_, rfl⟩
              rw [← hm'] at hfp n1 n4
              rw [hok] at hd0
              rw [hfp] at hc2
              rw [hfb] at hbf
              obtain ⟨t', rfl⟩ : ∃ t', t = t' + 1 := ⟨t - 1, by omega⟩
              have hat : t' < S.size := by omega
              have hy : (S[t']'hat).toNat = (S[t' + 1 - 1]'(by omega)).toNat := rfl
              rw [← hy] at n1 n2 n3
              obtain ⟨m, hmm⟩ : ∃ m, m = gnum u a (t' + 1) := ⟨_, rfl⟩
              rw [← hmm] at n1 ⊢
              have hm : m ≤ 6553 := by omega
              have hm2 : 10 * (m : Int) + (((S[t']'hat).toNat : Int) - 48) = ((m' : Nat) : Int) := by omega
              have hnn : f.n ≤ 9223372036854775807 := by have := hbf.1; omega
              have q4 : ¬ (t' : Int) + 1 ≤ (a : Int) + 1 := by omega
              have q5 : ¬ t' + 1 ≤ a + 1 := by omega
              have HN := Lib.hid (And.intro hm' (And.intro hm2 hnn))
              clear hok hfb hfp hdue hm' hmm n1 hy hm2 n5 hfo hnn
              go_wp2_with fail
              have hbw8 := HP7.out.2.2.trans (hbt.out.mono HP7.out.2.2.size)
              have hdr : Below wr.heap.size wr wr.drew := ⟨rfl, rfl, rfl, Nat.le_refl _, fun _ _ => rfl⟩
              have hidx : (0 : Int) ≤ (t' : Int) + 1 ∧ (t' : Int) + 1 < (S.size : Int) + 1 := by omega
              have hwrap : IntKind.i64.wrap ((t' : Int) + 1) = (t' : Int) + 1 := by rw [IntKind.wrap_i64]; omega
              rw [HN.out.2.1]
              have hsa : ∀ A8 c8 w1, Below wr.heap.size wr w1 → RB w1 A8 n bs → Calls Tryd.prog 12 #[.agg #[.slice f.a f.n f.c, .string ⟨#[]⟩], .agg #[.slice A8 n c8, .string ⟨#[]⟩]] w1 fun e w' => e = .returned (.bool true) ∧ Below w1.heap.size w1 w' := fun A8 c8 w1 h1 h2 => by
                have := sameAddr_c f.a A8 f.n n f.c c8 bs bs w1 (hbf.keep h1) h2 HN.out.2.2
                rw [decide_eq_true rfl] at this
                exact this
              have hwm : IntKind.i64.wrap (m' : Int) = (m' : Int) := by rw [IntKind.wrap_i64]; omega
              have hnm : (IntKind.i64.wrap (m' : Int) != (m' : Int)) = false := by rw [hwm]; simp
              refine region_pick (Below wr.heap.size wr) [(0, false, none), (1, false, none), (2, false, none), (3, false, none), (4, false, none), (5, false, none), (6, false, none), (7, false, none), (8, false, none), (9, false, none), (10, false, none), (11, false, none), (12, true, none), (13, false, none), (14, false, none), (15, false, none), (16, false, none), (17, false, none), (18, false, none), (19, false, none), (20, false, none), (21, false, none), (22, false, none), (23, false, none), (24, false, none), (25, false, none)] 26 (by kernel_rfl) (by kernel_rfl) (fun w w' h hb => h.trans (hb.mono h.size)) (hdr) ?_
              simp only [pickOps, List.getElem?_cons_zero, List.getElem?_cons_succ]
              repeat (first | (refine t_skip rfl ?_; (simp only [Act.put, List.setIfInBounds_toArray, List.set_cons_zero, List.set_cons_succ])) | (refine t_run ?_ rfl (fun w1 hw1 => ?_) ?_; rotate_left; (have r0 := hwrap; have r1 := hidx; have r2 := (hw1.cell (p := ⟨g9, o9 + (t' + 1), none⟩) hg9).trans hd0; have r3 := (hw1.cell (p := ⟨g8, o8 + (t' + 1) * 3, none⟩) hg8).trans hc0; have r4 := (hw1.cell (p := ⟨g8, o8 + (t' + 1) * 3 + 1, none⟩) hg8).trans hc1; go_simp; try (with_reducible rfl)); (simp only [Act.put, List.setIfInBounds_toArray, List.set_cons_zero, List.set_cons_succ])))
              refine t_fresh ?_ ?_ (PlT n bs) (by rfl) (fun w1 hw1 => ?_) (fun v w w' h hb => h.keep hb) (fun w1 hw1 => ?_) ?_
              rotate_left 2
              (go_simp; refine ⟨?_, ?_⟩ <;> with_reducible rfl)
              (go_at_call 9; (with_reducible refine (plain_c A n c bs w1 ((hr.keep hbw8).keep hw1) hR hn).mono ?_); rintro e w2 ⟨A8, c8, rfl, hown8, hb8⟩; exact ⟨_, rfl, ⟨A8, c8, rfl, RB.of_own hown8⟩, hb8⟩)
              rintro v8 ⟨-, -, A8, c8, rfl, -⟩
              (simp only [Act.put, List.setIfInBounds_toArray, List.set_cons_zero, List.set_cons_succ])
              repeat (first | (refine t_skip rfl ?_; (simp only [Act.put, List.setIfInBounds_toArray, List.set_cons_zero, List.set_cons_succ])) | (refine t_run ?_ rfl (fun w1 hw1 => ?_) ?_; rotate_left; (have r0 := hwrap; have r1 := hidx; have r2 := hnm; have r3 := (hw1.1.cell (p := ⟨g8, o8 + (t' + 1) * 3 + 2, none⟩) hg8).trans hc2; go_simp; try (with_reducible rfl)); (simp only [Act.put, List.setIfInBounds_toArray, List.set_cons_zero, List.set_cons_succ])) | (refine t_call ?_ ?_ ?_ rfl (fun w1 hw1 => ?_) (fun w1 hw1 => ?_) ?_; rotate_left 3; (have r0 := hwrap; have r1 := hidx; have r2 := hnm; have r3 := (hw1.1.cell (p := ⟨g8, o8 + (t' + 1) * 3 + 2, none⟩) hg8).trans hc2; go_simp; refine ⟨?_, ?_⟩ <;> with_reducible rfl); (first | (go_at_call 12; (with_reducible refine (hsa A8 c8 w1 hw1.1 hw1.2.rb).mono ?_); rintro e w2 ⟨rfl, hb⟩; refine ⟨?_, hb⟩; with_reducible rfl) | (go_at_call 12; (refine (hsa A8 c8 w1 hw1.1 hw1.2.rb).mono ?_); rintro e w2 ⟨rfl, hb⟩; refine ⟨?_, hb⟩; with_reducible rfl)); (simp only [Act.put, List.setIfInBounds_toArray, List.set_cons_zero, List.set_cons_succ])))
              intro w8 ⟨hb8, hp8⟩
              simp only [List.drop_succ_cons, List.drop_zero]
              have hb78 := hbt.out.trans (hb8.mono hbt.out.size)
              have HB := Lib.hid hb78
              clear hb78 hb8 hp8 hsa hc0 hc1 hc2 hd0 hbf
              go_wp2
              go_roundw
              case rel => exact ⟨t' + 1 + 1, by go_num, by omega, by rw [← HN.out.1], HB⟩
              case measure => simp [intOf]; omega
          · obtain rfl : t = S.size + 1 := by omega
            have hnum : gnum u a (S.size + 1) = u := by
              unfold gnum
              rw [List.take_of_length_le (by rw [HS.out.2.2.1]; omega), dd_num]
            rw [hnum]
            have hbe := HP7.out.2.2.trans (hbt.out.mono HP7.out.2.2.size)
            clear hnum
            go_wp2
            go_returns
            exact ⟨rfl, hbe⟩
  · have hf : (n == 4 || n == 16) = false := by simpa using hl
    rw [hf]
    go_wp2_with fail
    go_returns
    exact ⟨rfl, hb0⟩
end Go.Proofs.YtaofindlomkbbaaDoor
