/-
  The walk of laws.FnRangeCover.
-/
import Derived.Test.YtckfgdohpmllmaaDoorCoverL
import Derived.Test.YtckfgdohpmllmaaDoorFollow
import Derived.Test.YtckfgdohpmllmaaDoorSamePf
import Derived.Test.YtckfgdohpmllmaaDoorMaskO
namespace Go.Proofs.YtckfgdohpmllmaaDoor
open Go Go.RowKit
def lenOf : Value → Nat
  | .slice _ n _ => n
  | _ => 0
def cellNat (w : World) (g i : Nat) : Nat :=
  match w.cell? ⟨g, i, none⟩ with
  | some (.int _ x) => x.toNat
  | _ => 0
/-- Whether the first address of the prefix with b bits is the address itself. -/
theorem first_eq {bs : List UInt8} {b : Nat} : wb bs b false = bs ↔ 2 ^ (8 * bs.length - b) ∣ Lib.beNat bs := by
  constructor
  · intro h
    have h1 := congrArg Lib.beNat h
    rw [wb_beNat] at h1
    unfold wbN at h1
    simp only [Bool.false_eq_true, if_false, Nat.add_zero] at h1
    exact ⟨_, by rw [Nat.mul_comm]; exact h1.symm⟩
  · intro h
    apply beNat_inj bs.length _ _ (wb_len _ _ _) rfl
    rw [wb_beNat]
    unfold wbN
    simp only [Bool.false_eq_true, if_false, Nat.add_zero]
    exact Nat.div_mul_cancel h
/-- The last one of an aligned prefix. -/
theorem last_eq {bs : List UInt8} {b : Nat} (h : 2 ^ (8 * bs.length - b) ∣ Lib.beNat bs) : Lib.beNat (wb bs b true) + 1 = Lib.beNat bs + 2 ^ (8 * bs.length - b) := by
  rw [last_num, fN_eq]
  simp only
  rw [Nat.div_mul_cancel h]
/-- A row stays when a cell of another block is written. -/
theorem own_other {w : World} {base : Nat} {e : TypeId} {size n : Nat} {v : Value} {xs : List Value} {g : Nat} (h : w.ownsRow base e size v n xs) (hne : v.ownBlock ≠ some g) (i : Nat) (u : Value) : (w.setCell ⟨g, i, none⟩ u).ownsRow base e size v n xs := by
  refine ⟨h.1, ?_⟩
  rcases h.2 with h2 | ⟨g', cap, cur, hv, hb, hg', r⟩
  · exact .inl h2
  · refine .inr ⟨g', cap, cur, hv, hb, ?_, r⟩
    rw [Below.heap_setCell _ _ _ _ (show g' ≠ g from fun e' => hne (by rw [hv, e']; rfl))]
    exact hg'
/-- What holds while the greatest prefix is looked for. -/
structure CovS (B gP rn : Nat) (A9 : Option Addr) (c9 : Nat) (ab : List UInt8) (vL : Value) (es : List Pf) (va : Value) (b : Nat) (w : World) : Prop where
  box : Blk w gP 29 #[.slice A9 rn c9, .string ⟨#[]⟩, .int .i64 b]
  row : w.ownsRow B 29 3 vL es.length (pfCells es)
  own : ownPf w B es
  row2 : w.ownsRow B 5 1 va rn (Lib.byteCells ab)
  pl : w.ownsRow B 5 1 (.slice A9 rn c9) rn (Lib.byteCells ab)
  ne : vL.ownBlock ≠ some gP
  le : B ≤ gP
theorem CovS.keep {B gP rn : Nat} {A9 : Option Addr} {c9 : Nat} {ab : List UInt8} {vL : Value} {es : List Pf} {va : Value} {b : Nat} {w w' : World} (h : CovS B gP rn A9 c9 ab vL es va b w) (hb : Below w.heap.size w w') : CovS B gP rn A9 c9 ab vL es va b w' :=
  ⟨h.box.below hb, own_below h.row hb, h.own.below hb, own_below h.row2 hb, own_below h.pl hb, h.ne, h.le⟩
theorem CovS.store {B gP rn : Nat} {A9 : Option Addr} {c9 : Nat} {ab : List UInt8} {vL : Value} {es : List Pf} {va : Value} {b : Nat} {w : World} (h : CovS B gP rn A9 c9 ab vL es va b w) (b' : Nat) :
    CovS B gP rn A9 c9 ab vL es va b' (((w.setCell ⟨gP, 0, none⟩ (.slice A9 rn c9)).setCell ⟨gP, 1, none⟩ (.string ⟨#[]⟩)).setCell ⟨gP, 2, none⟩ (.int .i64 b')) := by
  have s1 := h.box.set 0 (.slice A9 rn c9)
  have s2 := s1.set 1 (.string ⟨#[]⟩)
  have s3 := s2.set 2 (.int .i64 b')
  refine ⟨s3, own_other (own_other (own_other h.row h.ne 0 _) h.ne 1 _) h.ne 2 _, fun y hy => ?_, ?_, ?_, h.ne, h.le⟩
  · exact own_set (own_set (own_set (h.own y hy) h.box (by decide) 0 _) s1 (by decide) 1 _) s2 (by decide) 2 _
  · exact own_set (own_set (own_set h.row2 h.box (by decide) 0 _) s1 (by decide) 1 _) s2 (by decide) 2 _
  · exact own_set (own_set (own_set h.pl h.box (by decide) 0 _) s1 (by decide) 1 _) s2 (by decide) 2 _
theorem CovS.nat {B gP rn : Nat} {A9 : Option Addr} {c9 : Nat} {ab : List UInt8} {vL : Value} {es : List Pf} {va : Value} {b : Nat} {w : World} (h : CovS B gP rn A9 c9 ab vL es va b w) : cellNat w gP 2 = b := by
  unfold cellNat
  rw [h.box.cell 2]
  simp
set_option maxRecDepth 100000 in
set_option maxHeartbeats 64000000 in
theorem cover_walk (A : Option Addr) (n c : Nat) (as1 : List UInt8) (B : Option Addr) (m d : Nat) (bs1 : List UInt8) (R : Option Addr) (rn rc : Nat) (rs : List UInt8) (z : ZP) (w : World) (hz : Zs w z)
    (hra : RB w A n as1) (hrb : RB w B m bs1) (hrr : RB w R rn rs) (hn : n ≤ 140737488355328) :
    Calls Tryd.prog 10 #[.slice A n c, .slice B m d, .slice R rn rc] w (TrueW w) := by
  obtain ⟨i0, hi, hz0, hz1, hz2⟩ := info_parts infoPf
  obtain ⟨k0, hki, hkz0, hkz1, hkz2⟩ := info_parts infoU8
  go_enter Tryd.func10, Tryd.ntmps10
  go_wp2_with fail
  refine (isAddress_c A n c w).mono ?_
  rintro e0 wa ⟨rfl, hba⟩
  by_cases hla : (n == 4 || n == 16) = true
  · rw [hla]
    have hl : isLen n := by simpa [isLen] using hla
    have hn16 : 0 < n ∧ n ≤ 16 := by unfold isLen at hl; omega
    clear hla
    by_cases hm : m = n
    · subst hm
      by_cases hr : rn = m
      · subst hr
        obtain ⟨ga, oa, hA, -, -⟩ := hra.2 (by omega)
        subst hA
        obtain ⟨gb, ob, hB, -, -⟩ := hrb.2 (by omega)
        subst hB
        have hra1 := hra.keep hba
        have hrb1 := hrb.keep hba
        have hrr1 := hrr.keep hba
        have hzA := hz.keep hba
        obtain ⟨gr, or, hR, -, -⟩ := hrr.2 (by omega)
        subst hR
        clear hra hrb hrr hz
        go_wp2_with fail
        refine (less_c (some ⟨gb, ob, none⟩) (some ⟨ga, oa, none⟩) rn d c bs1 as1 wa hrb1 hra1 (by omega)).mono ?_
        rintro e1 wb1 ⟨rfl, hbb1⟩
        have hb0 := hba.trans (hbb1.mono hba.size)
        have hra2 := hra1.keep hbb1
        have hrb2 := hrb1.keep hbb1
        have hrr2 := hrr1.keep hbb1
        have hzB := hzA.keep hbb1
        clear hra1 hrb1 hrr1 hzA hba hbb1
        by_cases hsw : Lib.beNat bs1 < Lib.beNat as1
        · rw [show decide (Lib.beNat bs1 < Lib.beNat as1) = true by simpa using hsw]
          have hFT : Lib.beNat bs1 ≤ Lib.beNat as1 := Nat.le_of_lt hsw
          clear hsw
          have hlF := hrb2.1
          have hlT := hra2.1
          have hTl := beNat_lt as1
          rw [hlT] at hTl
          have hnews : ∀ (j : Nat) (u : Value), (Lib.byteCells bs1)[j]? = some u → wb1.cell? ⟨gb, ob + j, none⟩ = some u := by
            intro j u hj
            have hj' : j < (bs1).length := by have := (List.getElem?_eq_some_iff.1 hj).1; rw [byteCells_len] at this; exact this
            rw [byteCells_get bs1 j hj'] at hj
            injection hj with hj
            subst hj
            obtain ⟨g1, o1, hA, -, hc0⟩ := hrb2.2 (by omega)
            injection hA with hA
            injection hA with hA1 hA2
            subst hA1 hA2
            exact hc0 j (by omega)
          have hnews2 : ∀ (j : Nat) (u : Value), (Lib.byteCells bs1)[j]? = some u → wb1.cell? ((⟨gb, ob, none⟩ : Addr).add j) = some u := fun j u hj => by
            have ha : (⟨gb, ob, none⟩ : Addr).add j = ⟨gb, ob + j, none⟩ := by unfold Addr.add; split <;> simp_all
            rw [ha]; exact hnews j u hj
          have hbl : (Lib.byteCells bs1).length = rn * 1 := by rw [byteCells_len, hlF, Nat.mul_one]
          have hone : ∀ u ∈ Lib.byteCells bs1, u.oneCell' = true := fun u hu => by simp [Lib.byteCells] at hu; obtain ⟨b, _, rfl⟩ := hu; rfl
          have h63 : 0 + rn ≤ maxLen := by unfold maxLen; omega
          have hby : (0 + rn) * 1 ≤ 140737488355328 := by omega
          have HN := Lib.hid (And.intro hbl (And.intro hnews2 (And.intro hone (And.intro h63 hby))))
          have HLL := Lib.hid (And.intro hlF hlT)
          clear hnews hnews2 hbl hone h63 hby hlF hlT
          go_wp2_with (at_builtin; refine wpList_append_own _ rfl _ _ 22 rfl wb1.heap.size 5 k0 (.int .u8 0) 1 1 Tryd.underlying22 hki hkz0 hkz1 hkz2 rfl (by decide) _ 0 [] rfl (World.ownsRow_nil _ _ _ _) ⟨gb, ob, none⟩ rn d (Lib.byteCells bs1) rfl HN.out.1 HN.out.2.1 HN.out.2.2.1 HN.out.2.2.2.1 HN.out.2.2.2.2 (Nat.le_refl _) ?_)
          intro v1 w1 hown1 hgrow _
          have hb1 : Below wb1.heap.size wb1 w1 := below_grown hgrow (Nat.le_refl _) (by intro g hg; cases hg)
          try simp only [Nat.zero_add, List.nil_append] at hown1
          obtain ⟨A8, c8, rfl⟩ := own_slice hown1
          obtain ⟨g8, rfl, -, -⟩ := own_some hown1 (by omega)
          have HO1 := Lib.hid hown1
          clear hown1 hgrow HN
          go_wp2_with fail
          go_loopw [7, 8] (fun v a wr => ∃ (es' : List Pf) (vv g c8 : Nat), wr.ownsRow wb1.heap.size 29 3 v es'.length (pfCells es') ∧ ownPf wr wb1.heap.size es' ∧ a = .slice (some ⟨g, 0, none⟩) rn c8 ∧ wr.ownsRow wb1.heap.size 5 1 (.slice (some ⟨g, 0, none⟩) rn c8) rn (Lib.byteCells (Lib.beBytes rn vv)) ∧ Lib.beNat bs1 ≤ vv ∧ vv ≤ Lib.beNat as1 ∧ CovInv rn (Lib.beNat bs1) (Lib.beNat as1) vv es' ∧ Below wb1.heap.size wb1 wr) (fun v _ _ => 16 * rn - lenOf v)
          case atStart => exact ⟨[], Lib.beNat bs1, g8, c8, World.ownsRow_nil _ _ _ _, fun e he => (by simp at he), rfl, by rw [← HLL.out.1, beBytes_beNat, HLL.out.1]; exact HO1.out, Nat.le_refl _, hFT, CovInv.start _ _ _, hb1⟩
          case round =>
            clear HO1 hb1
            obtain ⟨es', vv, g, c8', hown, hin, rfl, hat, hv1, hv2, hC, hbb⟩ := hrel
            obtain ⟨A7, c7, rfl⟩ := own_slice hown
            obtain ⟨ab, hab⟩ : ∃ ab, ab = Lib.beBytes rn vv := ⟨_, rfl⟩
            rw [← hab] at hat
            have habl : ab.length = rn := by rw [hab]; exact Lib.beBytes_length _ _
            have habn : Lib.beNat ab = vv := by rw [hab]; exact beNat_beBytes rn vv (by omega)
            have hlen16 := hC.len (by omega) hv2
            have HAB := Lib.hid (And.intro habl (And.intro habn (And.intro hC hab)))
            have HO := Lib.hid (And.intro hown (And.intro hin hat))
            have hrat := RB.of_own hat
            clear hab habl habn hC hown hin hat
            obtain ⟨L, hL⟩ : ∃ L, L = es'.length := ⟨_, rfl⟩
            rw [← hL] at hlen16 ⊢
            have HL := Lib.hid hL
            clear hL
            go_wp2_with fail
            refine (plain_c (some ⟨g, 0, none⟩) rn c8' ab wr hrat (by simp) (by omega)).mono ?_
            rintro e1 w2 ⟨A9, c9, rfl, hown9, hb2⟩
            have hxa : Below w2.heap.size w2 (w2.alloc (.cells #[.slice A9 rn c9, .string ⟨#[]⟩, .int .i64 (8 * (rn : Int))] 29)) := (Below.refl _ _).alloc (Nat.le_refl _) _
            have hbox : Blk (w2.alloc (.cells #[.slice A9 rn c9, .string ⟨#[]⟩, .int .i64 (8 * (rn : Int))] 29)) w2.heap.size 29 #[.slice A9 rn c9, .string ⟨#[]⟩, .int .i64 ((8 * rn : Nat) : Int)] := by push_cast; exact heap_alloc_new _ _
            obtain ⟨gP, hgP⟩ : ∃ gP, gP = w2.heap.size := ⟨_, rfl⟩
            rw [← hgP] at hbox
            have hb02 := hbb.trans (hb2.mono hbb.size)
            have hb03 := hb02.trans (hxa.mono hb02.size)
            have hS : CovS wb1.heap.size gP rn A9 c9 ab (.slice A7 L c7) es' (.slice (some ⟨g, 0, none⟩) rn c8') (8 * rn) (w2.alloc (.cells #[.slice A9 rn c9, .string ⟨#[]⟩, .int .i64 (8 * (rn : Int))] 29)) :=
              ⟨hbox, by rw [HL.out]; exact own_below (own_below HO.out.1 hb2) hxa, (HO.out.2.1.below hb2).below hxa, own_below (own_below HO.out.2.2 hb2) hxa, own_below (own_mono hown9 hbb.size) hxa, fun h => by
                rw [HL.out] at h
                have h5 := (HO.out.1.lt gP h).2
                have h6 := hb2.size
                omega, by rw [hgP]; exact hb02.size⟩
            have HX := Lib.hid (And.intro hS (And.intro hb03 hgP))
            clear hxa hbox hgP hb02 hb03 hS hown9 hb2 HO hrat hbb
            go_wp2_with fail
            obtain ⟨hS, hb03, hgP⟩ := HX.out
            rw [← hgP]
            clear HX hgP
            generalize w2.alloc (.cells #[.slice A9 rn c9, .string ⟨#[]⟩, .int .i64 (8 * (rn : Int))] 29) = w3 at *
            have HS3 := Lib.hid hS
            clear hS
            obtain ⟨wo, hwo⟩ : ∃ wo, wo = wr := ⟨_, rfl⟩
            subst hwo
            go_loopw [10] (fun _ wr => ∃ b : Nat, b ≤ 8 * rn ∧ CovS wb1.heap.size gP rn A9 c9 ab (.slice A7 L c7) es' (.slice (some ⟨g, 0, none⟩) rn c8') b wr ∧ 2 ^ (8 * rn - b) ∣ vv ∧ vv + 2 ^ (8 * rn - b) ≤ Lib.beNat as1 + 1 ∧ Below wb1.heap.size wb1 wr) (fun _ wr => cellNat wr gP 2)
            case atStart => exact ⟨8 * rn, Nat.le_refl _, HS3.out, by simp, by simp; omega, hb03⟩
            case round =>
              clear HS3 hb03
              obtain ⟨b, hb, hS, hal, hen, hbb⟩ := hrel
              have HNR := Lib.hid hS.nat
              have hbox := hS.box
              have cP := hbox.cell
              have fP := hbox.free
              have lP := hbox.lt
              have HS := Lib.hid hS
              have HAL := Lib.hid (And.intro hal hen)
              clear hS hbox hal hen
              cases b with
              | zero =>
                have hG : Great rn (Lib.beNat as1) vv 0 := ⟨by omega, HAL.out.1, HAL.out.2, .inl rfl⟩
                have HG := Lib.hid hG
                clear hG
                have hS := HS.out
                have hbX := hbb
                have hrow : wr.ownsRow wb1.heap.size 29 3 (.slice A7 L c7) L (pfCells es') := by have := hS.row; rw [← HL.out] at this; exact this
                have cP := hS.box.cell
                have hsz := hbX.size
                have HSX := Lib.hid hS
                have HROW := Lib.hid hrow
                clear hS hrow
                go_wp2_with ((at_builtin; refine append1 rfl _ _ 23 rfl (wb1.heap.size) 29 i0 (.agg #[.slice none 0 0, .string ⟨#[]⟩, .int .i64 0]) 3 48 Tryd.underlying23 hi hz0 hz1 hz2 rfl (by decide) _ _ _ rfl (HROW.out) _ _ [.slice A9 rn c9, .string ⟨#[]⟩, .int .i64 ((0 : Nat) : Int)] rfl (by simp) rfl rfl (by unfold maxLen; omega) (by omega) (by first | omega | (simp; omega)) ?_))
                intro v10 w10 hown10 hgrow
                have hxz : Below wr.heap.size wr (wr.alloc (.cells #[.slice A9 rn c9, .string ⟨#[]⟩, .int .i64 ((0 : Nat) : Int)] 29)) := (Below.refl _ _).alloc (Nat.le_refl _) _
                have hb10 : Below wb1.heap.size wb1 w10 := (hbX.trans (hxz.mono hbX.size)).grown hgrow (Nat.le_trans hbX.size hxz.size) (own_row_ge HROW.out)
                have hSx := HSX.out.keep hxz
                have hrowx := own_below HROW.out hxz
                have hbx10 := hSx.box.grown hgrow (fun e => hSx.ne e.symm)
                have hpl10 := hSx.pl.kept hgrow (own_ne hSx.pl hrowx (by decide))
                have hes10 : ownPf w10 wb1.heap.size (es' ++ [⟨A9, rn, c9, ab, 0⟩]) := fun y hy => by
                  rcases List.mem_append.1 hy with hy | hy
                  · exact (hSx.own.grown hrowx (by decide) hgrow) y hy
                  · simp at hy; subst hy; exact hpl10
                have hrow10 : w10.ownsRow wb1.heap.size 29 3 v10 (L + 1) (pfCells (es' ++ [(⟨A9, rn, c9, ab, 0⟩ : Pf)])) := by rw [pfCells_append]; exact hown10
                have hlen2 : (es' ++ [(⟨A9, rn, c9, ab, 0⟩ : Pf)]).length = L + 1 := by rw [List.length_append, ← HL.out]; rfl
                have hC2 := HAB.out.2.2.1.step hl hv1 hv2 (by rw [Nat.pow_mul]; exact hTl) HG.out ⟨A9, rn, c9, ab, 0⟩ HAB.out.1 rfl rfl HAB.out.2.1
                have hlast := last_eq (bs := ab) (b := 0) (by rw [HAB.out.1, HAB.out.2.1]; exact HG.out.al)
                rw [HAB.out.1, HAB.out.2.1] at hlast
                have hbk := HG.out.le
                have hen3 := HG.out.en
                have hwl : (wb ab 0 true).length = rn := by rw [wb_len, HAB.out.1]
                obtain ⟨A11, c11, rfl⟩ := own_slice hrow10
                have cP10 := hbx10.cell
                have hrp10 := RB.of_own hpl10
                have HE := Lib.hid (And.intro hes10 (And.intro hrow10 (And.intro hlen2 (And.intro hC2 (And.intro hlast (And.intro hen3 hwl))))))
                clear hSx hrowx hbx10 hpl10 hes10 hrow10 hlen2 hC2 hlast hen3 hwl hown10 hgrow hxz HSX HROW hbX hsz
                clear cP
                go_wp2_with fail
                refine (lastOf_c A9 rn c9 ab 0 w10 hrp10 hl hbk).mono ?_
                rintro e1 w11 ⟨v11, rfl, ⟨g11, c11', rfl, hown11⟩, hb11⟩
                have hr11 := RB.of_own hown11
                have hbb11 := hb10.trans (hb11.mono hb10.size)
                have hrT11 := hra2.keep hbb11
                clear cP10 hown11 hrp10
                go_wp2_with fail
                refine (equal_c (some ⟨g11, 0, none⟩) (some ⟨ga, oa, none⟩) rn rn c11' c (wb ab 0 true) as1 w11 hr11 hrT11 (by omega)).mono ?_
                rintro e1 w12 ⟨rfl, hb12⟩
                have hbb12 := hbb11.trans (hb12.mono hbb11.size)
                have hb1012 := hb11.trans (hb12.mono hb11.size)
                have hr12 := hr11.keep hb12
                clear hr11 hrT11 hbb11 hb11 hb12
                by_cases hq3 : wb ab 0 true = as1
                · rw [show decide (wb ab 0 true = as1) = true by simpa using hq3]
                  have hvT : vv + 2 ^ (8 * rn - 0) = Lib.beNat as1 + 1 := by rw [← HE.out.2.2.2.2.1, hq3]
                  have hC3 := HE.out.2.2.2.1
                  rw [hvT] at hC3
                  have HC3 := Lib.hid hC3
                  have hrF12 := hrb2.keep hbb12
                  have hrR12 := hrr2.keep hbb12
                  clear hq3 hvT hC3
                  go_wp2_with fail
                  refine (less_c (some ⟨gr, or, none⟩) (some ⟨gb, ob, none⟩) rn rc d rs bs1 w12 hrR12 hrF12 (by omega)).mono ?_
                  rintro e1 w13 ⟨rfl, hb13⟩
                  have hbb13 := hbb12.trans (hb13.mono hbb12.size)
                  have hb1013 := hb1012.trans (hb13.mono hb1012.size)
                  clear hr12 hrF12 hrR12 hb13 hb1012 hbb12
                  by_cases hp1 : Lib.beNat rs < Lib.beNat bs1
                  · rw [show decide (Lib.beNat rs < Lib.beNat bs1) = true by simpa using hp1]
                    have hmany : manyIn ((es' ++ [(⟨A9, rn, c9, ab, 0⟩ : Pf)]).map Pf.is) rs = 0 := by rw [HC3.out.sum rs hrr2.1, if_neg (by omega)]
                    have HM := Lib.hid hmany
                    have hrR := hrr2.keep hbb13
                    have hzR := hzB.keep hbb13
                    have hrpR : RP w13 A11 (L + 1) (es' ++ [⟨A9, rn, c9, ab, 0⟩]) := RP.of_own (own_below HE.out.2.1 hb1013) HE.out.2.2.1 (HE.out.1.below hb1013)
                    have hvR : ∀ y ∈ es' ++ [(⟨A9, rn, c9, ab, 0⟩ : Pf)], Vp y.is := fun y hy => by
                      obtain ⟨l1, -, l3⟩ := HC3.out.ln y hy
                      exact ⟨by show isLen y.bs.length; rw [l1]; exact hl, by show y.k ≤ 8 * y.bs.length; rw [l1]; exact l3⟩
                    have hle1 : ((L : Int) + 1 ≤ 16 * rn) := by omega
                    have hsortR := sorted_c A11 (L + 1) c11 (es' ++ [⟨A9, rn, c9, ab, 0⟩]) z
                    unfold SortPost at hsortR
                    rw [HE.out.2.2.1] at hsortR
                    have HSO := Lib.hid hsortR
                    clear hmany hsortR
                    go_wp2_with fail
                    refine (howMany_c A11 (some ⟨gr, or, none⟩) (L + 1) rn c11 rc (es' ++ [⟨A9, rn, c9, ab, 0⟩]) rs z w13 hzR hrpR hvR (by omega) hrR (by simp) (by omega)).mono ?_
                    rintro e1 w16 ⟨rfl, hb16⟩
                    rw [HM.out]
                    have hzS := hzR.keep hb16
                    have hrpS := hrpR.keep hb16
                    have hbb16 := hbb13.trans (hb16.mono hbb13.size)
                    clear hzR hrpR hrR hb16
                    go_wp2_with fail
                    refine (HSO.out w16 hzS hrpS hvR (by omega)).mono ?_
                    rintro e1 w17 ⟨A17, c17, fs, rfl, hown17, hsort, hb17⟩
                    have hlf : fs.length = L + 1 := by rw [hsort.1.length_eq]; exact HE.out.2.2.1
                    have hrpF : RP w17 A17 (L + 1) fs := ⟨hlf, RC.of_own hown17, fun y hy => ((hrpS.2.2 y (hsort.1.subset hy)).keep hb17)⟩
                    have hsame := samePfs_c A17 A11 (L + 1) c17 c11 fs (es' ++ [⟨A9, rn, c9, ab, 0⟩]) w17 hrpF (hrpS.keep hb17) (hsort.all hvR) (hsort.same hvR HC3.out.sorted) (by omega)
                    have hbb17 := hbb16.trans (hb17.mono hbb16.size)
                    clear hown17 hsort hb17 hlf hrpF hrpS hbb16
                    go_wp2_with fail
                    refine hsame.mono ?_
                    rintro e1 w18 ⟨rfl, hb18⟩
                    have hbb18 := hbb17.trans (hb18.mono hbb17.size)
                    clear hsame hb18 hbb17
                    go_wp2
                    go_returns
                    exact ⟨rfl, hb0.trans (hbb18.mono hb0.size)⟩
                  · rw [show decide (Lib.beNat rs < Lib.beNat bs1) = false by simpa using hp1]
                    have hrT13 := hra2.keep hbb13
                    have hrR13 := hrr2.keep hbb13
                    go_wp2_with fail
                    refine (less_c (some ⟨ga, oa, none⟩) (some ⟨gr, or, none⟩) rn c rc as1 rs w13 hrT13 hrR13 (by omega)).mono ?_
                    rintro e1 w14 ⟨rfl, hb14⟩
                    have hbb14 := hbb13.trans (hb14.mono hbb13.size)
                    have hb1014 := hb1013.trans (hb14.mono hb1013.size)
                    clear hrT13 hrR13 hb14 hb1013 hbb13
                    by_cases hp2 : Lib.beNat as1 < Lib.beNat rs
                    · rw [show decide (Lib.beNat as1 < Lib.beNat rs) = true by simpa using hp2]
                      have hmany : manyIn ((es' ++ [(⟨A9, rn, c9, ab, 0⟩ : Pf)]).map Pf.is) rs = 0 := by rw [HC3.out.sum rs hrr2.1, if_neg (by omega)]
                      have HM := Lib.hid hmany
                      have hrR := hrr2.keep hbb14
                      have hzR := hzB.keep hbb14
                      have hrpR : RP w14 A11 (L + 1) (es' ++ [⟨A9, rn, c9, ab, 0⟩]) := RP.of_own (own_below HE.out.2.1 hb1014) HE.out.2.2.1 (HE.out.1.below hb1014)
                      have hvR : ∀ y ∈ es' ++ [(⟨A9, rn, c9, ab, 0⟩ : Pf)], Vp y.is := fun y hy => by
                        obtain ⟨l1, -, l3⟩ := HC3.out.ln y hy
                        exact ⟨by show isLen y.bs.length; rw [l1]; exact hl, by show y.k ≤ 8 * y.bs.length; rw [l1]; exact l3⟩
                      have hle1 : ((L : Int) + 1 ≤ 16 * rn) := by omega
                      have hsortR := sorted_c A11 (L + 1) c11 (es' ++ [⟨A9, rn, c9, ab, 0⟩]) z
                      unfold SortPost at hsortR
                      rw [HE.out.2.2.1] at hsortR
                      have HSO := Lib.hid hsortR
                      clear hmany hsortR
                      go_wp2_with fail
                      refine (howMany_c A11 (some ⟨gr, or, none⟩) (L + 1) rn c11 rc (es' ++ [⟨A9, rn, c9, ab, 0⟩]) rs z w14 hzR hrpR hvR (by omega) hrR (by simp) (by omega)).mono ?_
                      rintro e1 w16 ⟨rfl, hb16⟩
                      rw [HM.out]
                      have hzS := hzR.keep hb16
                      have hrpS := hrpR.keep hb16
                      have hbb16 := hbb14.trans (hb16.mono hbb14.size)
                      clear hzR hrpR hrR hb16
                      go_wp2_with fail
                      refine (HSO.out w16 hzS hrpS hvR (by omega)).mono ?_
                      rintro e1 w17 ⟨A17, c17, fs, rfl, hown17, hsort, hb17⟩
                      have hlf : fs.length = L + 1 := by rw [hsort.1.length_eq]; exact HE.out.2.2.1
                      have hrpF : RP w17 A17 (L + 1) fs := ⟨hlf, RC.of_own hown17, fun y hy => ((hrpS.2.2 y (hsort.1.subset hy)).keep hb17)⟩
                      have hsame := samePfs_c A17 A11 (L + 1) c17 c11 fs (es' ++ [⟨A9, rn, c9, ab, 0⟩]) w17 hrpF (hrpS.keep hb17) (hsort.all hvR) (hsort.same hvR HC3.out.sorted) (by omega)
                      have hbb17 := hbb16.trans (hb17.mono hbb16.size)
                      clear hown17 hsort hb17 hlf hrpF hrpS hbb16
                      go_wp2_with fail
                      refine hsame.mono ?_
                      rintro e1 w18 ⟨rfl, hb18⟩
                      have hbb18 := hbb17.trans (hb18.mono hbb17.size)
                      clear hsame hb18 hbb17
                      go_wp2
                      go_returns
                      exact ⟨rfl, hb0.trans (hbb18.mono hb0.size)⟩
                    · rw [show decide (Lib.beNat as1 < Lib.beNat rs) = false by simpa using hp2]
                      have hmany : manyIn ((es' ++ [(⟨A9, rn, c9, ab, 0⟩ : Pf)]).map Pf.is) rs = 1 := by rw [HC3.out.sum rs hrr2.1, if_pos (by omega)]
                      have HM := Lib.hid hmany
                      have hrR := hrr2.keep hbb14
                      have hzR := hzB.keep hbb14
                      have hrpR : RP w14 A11 (L + 1) (es' ++ [⟨A9, rn, c9, ab, 0⟩]) := RP.of_own (own_below HE.out.2.1 hb1014) HE.out.2.2.1 (HE.out.1.below hb1014)
                      have hvR : ∀ y ∈ es' ++ [(⟨A9, rn, c9, ab, 0⟩ : Pf)], Vp y.is := fun y hy => by
                        obtain ⟨l1, -, l3⟩ := HC3.out.ln y hy
                        exact ⟨by show isLen y.bs.length; rw [l1]; exact hl, by show y.k ≤ 8 * y.bs.length; rw [l1]; exact l3⟩
                      have hle1 : ((L : Int) + 1 ≤ 16 * rn) := by omega
                      have hsortR := sorted_c A11 (L + 1) c11 (es' ++ [⟨A9, rn, c9, ab, 0⟩]) z
                      unfold SortPost at hsortR
                      rw [HE.out.2.2.1] at hsortR
                      have HSO := Lib.hid hsortR
                      clear hmany hsortR
                      go_wp2_with fail
                      refine (howMany_c A11 (some ⟨gr, or, none⟩) (L + 1) rn c11 rc (es' ++ [⟨A9, rn, c9, ab, 0⟩]) rs z w14 hzR hrpR hvR (by omega) hrR (by simp) (by omega)).mono ?_
                      rintro e1 w16 ⟨rfl, hb16⟩
                      rw [HM.out]
                      have hzS := hzR.keep hb16
                      have hrpS := hrpR.keep hb16
                      have hbb16 := hbb14.trans (hb16.mono hbb14.size)
                      clear hzR hrpR hrR hb16
                      go_wp2_with fail
                      refine (HSO.out w16 hzS hrpS hvR (by omega)).mono ?_
                      rintro e1 w17 ⟨A17, c17, fs, rfl, hown17, hsort, hb17⟩
                      have hlf : fs.length = L + 1 := by rw [hsort.1.length_eq]; exact HE.out.2.2.1
                      have hrpF : RP w17 A17 (L + 1) fs := ⟨hlf, RC.of_own hown17, fun y hy => ((hrpS.2.2 y (hsort.1.subset hy)).keep hb17)⟩
                      have hsame := samePfs_c A17 A11 (L + 1) c17 c11 fs (es' ++ [⟨A9, rn, c9, ab, 0⟩]) w17 hrpF (hrpS.keep hb17) (hsort.all hvR) (hsort.same hvR HC3.out.sorted) (by omega)
                      have hbb17 := hbb16.trans (hb17.mono hbb16.size)
                      clear hown17 hsort hb17 hlf hrpF hrpS hbb16
                      go_wp2_with fail
                      refine hsame.mono ?_
                      rintro e1 w18 ⟨rfl, hb18⟩
                      have hbb18 := hbb17.trans (hb18.mono hbb17.size)
                      clear hsame hb18 hbb17
                      go_wp2
                      go_returns
                      exact ⟨rfl, hb0.trans (hbb18.mono hb0.size)⟩
                · rw [show decide (wb ab 0 true = as1) = false by simpa using hq3]
                  have hne : Lib.beNat (wb ab 0 true) ≠ Lib.beNat as1 := fun h => hq3 (beNat_inj rn _ _ HE.out.2.2.2.2.2.2 HLL.out.2 h)
                  have hmax : Lib.beNat (wb ab 0 true) + 1 < 256 ^ rn := by
                    have h1 := HE.out.2.2.2.2.1
                    have h2 := HE.out.2.2.2.2.2.1
                    omega
                  clear hq3
                  go_wp2_with fail
                  refine (following_c g11 0 rn c11' (wb ab 0 true) w12 hr12 hl hmax).mono ?_
                  rintro e1 w13 ⟨v13, rfl, ⟨g13, c13, rfl, hown13⟩, hb13⟩
                  have hbb13 := hbb12.trans (hb13.mono hbb12.size)
                  have hown13' := own_mono hown13 hbb12.size
                  rw [HE.out.2.2.2.2.1] at hown13'
                  have hb1013 := hb1012.trans (hb13.mono hb1012.size)
                  have hrow13 := own_below HE.out.2.1 hb1013
                  rw [← HE.out.2.2.1] at hrow13
                  have H13 := Lib.hid (And.intro hown13' (And.intro hrow13 (HE.out.1.below hb1013)))
                  have hvle : vv + 2 ^ (8 * rn - 0) ≤ Lib.beNat as1 := by
                    have h1 := HE.out.2.2.2.2.1
                    have h2 := HE.out.2.2.2.2.2.1
                    omega
                  have hvge : Lib.beNat bs1 ≤ vv + 2 ^ (8 * rn - 0) := Nat.le_trans hv1 (Nat.le_add_right _ _)
                  have HV := Lib.hid (And.intro hvge hvle)
                  clear hown13 hown13' hrow13 hb13 hbb12 hb1012 hb1013 hr12 hne hmax hvle hvge
                  go_wp2
                  go_roundw
                  case rel => exact ⟨es' ++ [⟨A9, rn, c9, ab, 0⟩], vv + 2 ^ (8 * rn - 0), g13, c13, (by rw [HE.out.2.2.1] ; have := H13.out.2.1; rw [HE.out.2.2.1] at this; exact this), H13.out.2.2, rfl, H13.out.1, HV.out.1, HV.out.2, HE.out.2.2.2.1, hbb13⟩
                  case measure => simp only [lenOf]; omega
              | succ b =>
                have hxa : Below wr.heap.size wr (wr.alloc (.cells #[.slice A9 rn c9, .string ⟨#[]⟩, .int .i64 (b : Int)] 29)) := (Below.refl _ _).alloc (Nat.le_refl _) _
                have hboxq : Blk (wr.alloc (.cells #[.slice A9 rn c9, .string ⟨#[]⟩, .int .i64 (b : Int)] 29)) wr.heap.size 29 #[.slice A9 rn c9, .string ⟨#[]⟩, .int .i64 (b : Int)] := heap_alloc_new _ _
                obtain ⟨gQ, hgQ⟩ : ∃ gQ, gQ = wr.heap.size := ⟨_, rfl⟩
                rw [← hgQ] at hboxq
                have HX := Lib.hid (And.intro hgQ (And.intro hboxq (And.intro (hbb.trans (hxa.mono hbb.size)) (HS.out.keep hxa))))
                clear hgQ hboxq hxa hbb HS
                go_wp2_with fail
                obtain ⟨hgQ, hboxq, hbb, hS⟩ := HX.out
                rw [← hgQ]
                clear HX hgQ cP fP lP
                generalize wr.alloc (.cells #[.slice A9 rn c9, .string ⟨#[]⟩, .int .i64 (b : Int)] 29) = w4 at *
                refine (firstOf_c A9 rn c9 ab b w4 (RB.of_own hS.pl) hl (by omega)).mono ?_
                rintro e1 w5 ⟨v5, rfl, ⟨g5, c5, rfl, hown5⟩, hb5⟩
                have hS5 := hS.keep hb5
                have hbb5 := hbb.trans (hb5.mono hbb.size)
                have hbq5 := hboxq.below hb5
                have hr5 := RB.of_own hown5
                have hra5 := RB.of_own hS5.row2
                clear hS hbb hboxq hown5 hb5
                go_wp2_with fail
                refine (equal_c (some ⟨g5, 0, none⟩) (some ⟨g, 0, none⟩) rn rn c5 c8' (wb ab b false) ab w5 hr5 hra5 (by omega)).mono ?_
                rintro e1 w6 ⟨rfl, hb6⟩
                have hS6 := hS5.keep hb6
                have hbb6 := hbb5.trans (hb6.mono hbb5.size)
                have hbq6 := hbq5.below hb6
                clear hS5 hbb5 hbq5 hr5 hra5 hb6
                by_cases hq1 : wb ab b false = ab
                · rw [show decide (wb ab b false = ab) = true by simpa using hq1]
                  have hdv : 2 ^ (8 * rn - b) ∣ vv := by have := first_eq.1 hq1; rw [HAB.out.1, HAB.out.2.1] at this; exact this
                  have hla := last_eq (bs := ab) (b := b) (by rw [HAB.out.1, HAB.out.2.1]; exact hdv)
                  rw [HAB.out.1, HAB.out.2.1] at hla
                  have cQ := hbq6.cell
                  have hrp6 := RB.of_own hS6.pl
                  have HDV := Lib.hid (And.intro hdv hla)
                  clear hdv hla hq1
                  go_wp2_with fail
                  refine (lastOf_c A9 rn c9 ab b w6 hrp6 hl (by omega)).mono ?_
                  rintro e1 w7 ⟨v7, rfl, ⟨g7, c7', rfl, hown7⟩, hb7⟩
                  have hS7 := hS6.keep hb7
                  have hbb7 := hbb6.trans (hb7.mono hbb6.size)
                  have hbq7 := hbq6.below hb7
                  have hr7 := RB.of_own hown7
                  have hrt7 := hra2.keep hbb7
                  clear hS6 hbb6 hbq6 cQ hrp6 hown7 hb7
                  go_wp2_with fail
                  refine (less_c (some ⟨ga, oa, none⟩) (some ⟨g7, 0, none⟩) rn c c7' as1 (wb ab b true) w7 hrt7 hr7 (by omega)).mono ?_
                  rintro e1 w8 ⟨rfl, hb8⟩
                  have hS8 := hS7.keep hb8
                  have hbb8 := hbb7.trans (hb8.mono hbb7.size)
                  have hbq8 := hbq7.below hb8
                  clear hS7 hbb7 hbq7 hr7 hrt7 hb8
                  by_cases hq2 : Lib.beNat as1 < Lib.beNat (wb ab b true)
                  · rw [show decide (Lib.beNat as1 < Lib.beNat (wb ab b true)) = true by simpa using hq2]
                    have hG : Great rn (Lib.beNat as1) vv (b + 1) := ⟨hb, HAL.out.1, HAL.out.2, .inr (.inr (by rw [show 8 * rn - (b + 1) + 1 = 8 * rn - b by omega]; have := HDV.out.2; omega))⟩
                    have HG := Lib.hid hG
                    clear hG hq2
                    have hS := hS8
                    have hbX := hbb8
                    have hrow : w8.ownsRow wb1.heap.size 29 3 (.slice A7 L c7) L (pfCells es') := by have := hS.row; rw [← HL.out] at this; exact this
                    have cP := hS.box.cell
                    have hsz := hbX.size
                    have HSX := Lib.hid hS
                    have HROW := Lib.hid hrow
                    clear hS hrow
                    go_wp2_with ((at_builtin; refine append1 rfl _ _ 23 rfl (wb1.heap.size) 29 i0 (.agg #[.slice none 0 0, .string ⟨#[]⟩, .int .i64 0]) 3 48 Tryd.underlying23 hi hz0 hz1 hz2 rfl (by decide) _ _ _ rfl (HROW.out) _ _ [.slice A9 rn c9, .string ⟨#[]⟩, .int .i64 ((b : Int) + 1)] rfl (by simp) rfl rfl (by unfold maxLen; omega) (by omega) (by first | omega | (simp; omega)) ?_))
                    intro v10 w10 hown10 hgrow
                    have hxz : Below w8.heap.size w8 (w8.alloc (.cells #[.slice A9 rn c9, .string ⟨#[]⟩, .int .i64 ((b : Int) + 1)] 29)) := (Below.refl _ _).alloc (Nat.le_refl _) _
                    have hb10 : Below wb1.heap.size wb1 w10 := (hbX.trans (hxz.mono hbX.size)).grown hgrow (Nat.le_trans hbX.size hxz.size) (own_row_ge HROW.out)
                    have hSx := HSX.out.keep hxz
                    have hrowx := own_below HROW.out hxz
                    have hbx10 := hSx.box.grown hgrow (fun e => hSx.ne e.symm)
                    have hpl10 := hSx.pl.kept hgrow (own_ne hSx.pl hrowx (by decide))
                    have hes10 : ownPf w10 wb1.heap.size (es' ++ [⟨A9, rn, c9, ab, (b + 1)⟩]) := fun y hy => by
                      rcases List.mem_append.1 hy with hy | hy
                      · exact (hSx.own.grown hrowx (by decide) hgrow) y hy
                      · simp at hy; subst hy; exact hpl10
                    have hrow10 : w10.ownsRow wb1.heap.size 29 3 v10 (L + 1) (pfCells (es' ++ [(⟨A9, rn, c9, ab, (b + 1)⟩ : Pf)])) := by rw [pfCells_append]; exact hown10
                    have hlen2 : (es' ++ [(⟨A9, rn, c9, ab, (b + 1)⟩ : Pf)]).length = L + 1 := by rw [List.length_append, ← HL.out]; rfl
                    have hC2 := HAB.out.2.2.1.step hl hv1 hv2 (by rw [Nat.pow_mul]; exact hTl) HG.out ⟨A9, rn, c9, ab, (b + 1)⟩ HAB.out.1 rfl rfl HAB.out.2.1
                    have hlast := last_eq (bs := ab) (b := (b + 1)) (by rw [HAB.out.1, HAB.out.2.1]; exact HG.out.al)
                    rw [HAB.out.1, HAB.out.2.1] at hlast
                    have hbk := HG.out.le
                    have hen3 := HG.out.en
                    have hwl : (wb ab (b + 1) true).length = rn := by rw [wb_len, HAB.out.1]
                    obtain ⟨A11, c11, rfl⟩ := own_slice hrow10
                    have cP10 := hbx10.cell
                    have hrp10 := RB.of_own hpl10
                    have HE := Lib.hid (And.intro hes10 (And.intro hrow10 (And.intro hlen2 (And.intro hC2 (And.intro hlast (And.intro hen3 hwl))))))
                    clear hSx hrowx hbx10 hpl10 hes10 hrow10 hlen2 hC2 hlast hen3 hwl hown10 hgrow hxz HSX HROW hbX hsz
                    clear cP
                    go_wp2_with fail
                    refine (lastOf_c A9 rn c9 ab (b + 1) w10 hrp10 hl hbk).mono ?_
                    rintro e1 w11 ⟨v11, rfl, ⟨g11, c11', rfl, hown11⟩, hb11⟩
                    have hr11 := RB.of_own hown11
                    have hbb11 := hb10.trans (hb11.mono hb10.size)
                    have hrT11 := hra2.keep hbb11
                    clear cP10 hown11 hrp10
                    go_wp2_with fail
                    refine (equal_c (some ⟨g11, 0, none⟩) (some ⟨ga, oa, none⟩) rn rn c11' c (wb ab (b + 1) true) as1 w11 hr11 hrT11 (by omega)).mono ?_
                    rintro e1 w12 ⟨rfl, hb12⟩
                    have hbb12 := hbb11.trans (hb12.mono hbb11.size)
                    have hb1012 := hb11.trans (hb12.mono hb11.size)
                    have hr12 := hr11.keep hb12
                    clear hr11 hrT11 hbb11 hb11 hb12
                    by_cases hq3 : wb ab (b + 1) true = as1
                    · rw [show decide (wb ab (b + 1) true = as1) = true by simpa using hq3]
                      have hvT : vv + 2 ^ (8 * rn - (b + 1)) = Lib.beNat as1 + 1 := by rw [← HE.out.2.2.2.2.1, hq3]
                      have hC3 := HE.out.2.2.2.1
                      rw [hvT] at hC3
                      have HC3 := Lib.hid hC3
                      have hrF12 := hrb2.keep hbb12
                      have hrR12 := hrr2.keep hbb12
                      clear hq3 hvT hC3
                      go_wp2_with fail
                      refine (less_c (some ⟨gr, or, none⟩) (some ⟨gb, ob, none⟩) rn rc d rs bs1 w12 hrR12 hrF12 (by omega)).mono ?_
                      rintro e1 w13 ⟨rfl, hb13⟩
                      have hbb13 := hbb12.trans (hb13.mono hbb12.size)
                      have hb1013 := hb1012.trans (hb13.mono hb1012.size)
                      clear hr12 hrF12 hrR12 hb13 hb1012 hbb12
                      by_cases hp1 : Lib.beNat rs < Lib.beNat bs1
                      · rw [show decide (Lib.beNat rs < Lib.beNat bs1) = true by simpa using hp1]
                        have hmany : manyIn ((es' ++ [(⟨A9, rn, c9, ab, (b + 1)⟩ : Pf)]).map Pf.is) rs = 0 := by rw [HC3.out.sum rs hrr2.1, if_neg (by omega)]
                        have HM := Lib.hid hmany
                        have hrR := hrr2.keep hbb13
                        have hzR := hzB.keep hbb13
                        have hrpR : RP w13 A11 (L + 1) (es' ++ [⟨A9, rn, c9, ab, (b + 1)⟩]) := RP.of_own (own_below HE.out.2.1 hb1013) HE.out.2.2.1 (HE.out.1.below hb1013)
                        have hvR : ∀ y ∈ es' ++ [(⟨A9, rn, c9, ab, (b + 1)⟩ : Pf)], Vp y.is := fun y hy => by
                          obtain ⟨l1, -, l3⟩ := HC3.out.ln y hy
                          exact ⟨by show isLen y.bs.length; rw [l1]; exact hl, by show y.k ≤ 8 * y.bs.length; rw [l1]; exact l3⟩
                        have hle1 : ((L : Int) + 1 ≤ 16 * rn) := by omega
                        have hsortR := sorted_c A11 (L + 1) c11 (es' ++ [⟨A9, rn, c9, ab, (b + 1)⟩]) z
                        unfold SortPost at hsortR
                        rw [HE.out.2.2.1] at hsortR
                        have HSO := Lib.hid hsortR
                        clear hmany hsortR
                        go_wp2_with fail
                        refine (howMany_c A11 (some ⟨gr, or, none⟩) (L + 1) rn c11 rc (es' ++ [⟨A9, rn, c9, ab, (b + 1)⟩]) rs z w13 hzR hrpR hvR (by omega) hrR (by simp) (by omega)).mono ?_
                        rintro e1 w16 ⟨rfl, hb16⟩
                        rw [HM.out]
                        have hzS := hzR.keep hb16
                        have hrpS := hrpR.keep hb16
                        have hbb16 := hbb13.trans (hb16.mono hbb13.size)
                        clear hzR hrpR hrR hb16
                        go_wp2_with fail
                        refine (HSO.out w16 hzS hrpS hvR (by omega)).mono ?_
                        rintro e1 w17 ⟨A17, c17, fs, rfl, hown17, hsort, hb17⟩
                        have hlf : fs.length = L + 1 := by rw [hsort.1.length_eq]; exact HE.out.2.2.1
                        have hrpF : RP w17 A17 (L + 1) fs := ⟨hlf, RC.of_own hown17, fun y hy => ((hrpS.2.2 y (hsort.1.subset hy)).keep hb17)⟩
                        have hsame := samePfs_c A17 A11 (L + 1) c17 c11 fs (es' ++ [⟨A9, rn, c9, ab, (b + 1)⟩]) w17 hrpF (hrpS.keep hb17) (hsort.all hvR) (hsort.same hvR HC3.out.sorted) (by omega)
                        have hbb17 := hbb16.trans (hb17.mono hbb16.size)
                        clear hown17 hsort hb17 hlf hrpF hrpS hbb16
                        go_wp2_with fail
                        refine hsame.mono ?_
                        rintro e1 w18 ⟨rfl, hb18⟩
                        have hbb18 := hbb17.trans (hb18.mono hbb17.size)
                        clear hsame hb18 hbb17
                        go_wp2
                        go_returns
                        exact ⟨rfl, hb0.trans (hbb18.mono hb0.size)⟩
                      · rw [show decide (Lib.beNat rs < Lib.beNat bs1) = false by simpa using hp1]
                        have hrT13 := hra2.keep hbb13
                        have hrR13 := hrr2.keep hbb13
                        go_wp2_with fail
                        refine (less_c (some ⟨ga, oa, none⟩) (some ⟨gr, or, none⟩) rn c rc as1 rs w13 hrT13 hrR13 (by omega)).mono ?_
                        rintro e1 w14 ⟨rfl, hb14⟩
                        have hbb14 := hbb13.trans (hb14.mono hbb13.size)
                        have hb1014 := hb1013.trans (hb14.mono hb1013.size)
                        clear hrT13 hrR13 hb14 hb1013 hbb13
                        by_cases hp2 : Lib.beNat as1 < Lib.beNat rs
                        · rw [show decide (Lib.beNat as1 < Lib.beNat rs) = true by simpa using hp2]
                          have hmany : manyIn ((es' ++ [(⟨A9, rn, c9, ab, (b + 1)⟩ : Pf)]).map Pf.is) rs = 0 := by rw [HC3.out.sum rs hrr2.1, if_neg (by omega)]
                          have HM := Lib.hid hmany
                          have hrR := hrr2.keep hbb14
                          have hzR := hzB.keep hbb14
                          have hrpR : RP w14 A11 (L + 1) (es' ++ [⟨A9, rn, c9, ab, (b + 1)⟩]) := RP.of_own (own_below HE.out.2.1 hb1014) HE.out.2.2.1 (HE.out.1.below hb1014)
                          have hvR : ∀ y ∈ es' ++ [(⟨A9, rn, c9, ab, (b + 1)⟩ : Pf)], Vp y.is := fun y hy => by
                            obtain ⟨l1, -, l3⟩ := HC3.out.ln y hy
                            exact ⟨by show isLen y.bs.length; rw [l1]; exact hl, by show y.k ≤ 8 * y.bs.length; rw [l1]; exact l3⟩
                          have hle1 : ((L : Int) + 1 ≤ 16 * rn) := by omega
                          have hsortR := sorted_c A11 (L + 1) c11 (es' ++ [⟨A9, rn, c9, ab, (b + 1)⟩]) z
                          unfold SortPost at hsortR
                          rw [HE.out.2.2.1] at hsortR
                          have HSO := Lib.hid hsortR
                          clear hmany hsortR
                          go_wp2_with fail
                          refine (howMany_c A11 (some ⟨gr, or, none⟩) (L + 1) rn c11 rc (es' ++ [⟨A9, rn, c9, ab, (b + 1)⟩]) rs z w14 hzR hrpR hvR (by omega) hrR (by simp) (by omega)).mono ?_
                          rintro e1 w16 ⟨rfl, hb16⟩
                          rw [HM.out]
                          have hzS := hzR.keep hb16
                          have hrpS := hrpR.keep hb16
                          have hbb16 := hbb14.trans (hb16.mono hbb14.size)
                          clear hzR hrpR hrR hb16
                          go_wp2_with fail
                          refine (HSO.out w16 hzS hrpS hvR (by omega)).mono ?_
                          rintro e1 w17 ⟨A17, c17, fs, rfl, hown17, hsort, hb17⟩
                          have hlf : fs.length = L + 1 := by rw [hsort.1.length_eq]; exact HE.out.2.2.1
                          have hrpF : RP w17 A17 (L + 1) fs := ⟨hlf, RC.of_own hown17, fun y hy => ((hrpS.2.2 y (hsort.1.subset hy)).keep hb17)⟩
                          have hsame := samePfs_c A17 A11 (L + 1) c17 c11 fs (es' ++ [⟨A9, rn, c9, ab, (b + 1)⟩]) w17 hrpF (hrpS.keep hb17) (hsort.all hvR) (hsort.same hvR HC3.out.sorted) (by omega)
                          have hbb17 := hbb16.trans (hb17.mono hbb16.size)
                          clear hown17 hsort hb17 hlf hrpF hrpS hbb16
                          go_wp2_with fail
                          refine hsame.mono ?_
                          rintro e1 w18 ⟨rfl, hb18⟩
                          have hbb18 := hbb17.trans (hb18.mono hbb17.size)
                          clear hsame hb18 hbb17
                          go_wp2
                          go_returns
                          exact ⟨rfl, hb0.trans (hbb18.mono hb0.size)⟩
                        · rw [show decide (Lib.beNat as1 < Lib.beNat rs) = false by simpa using hp2]
                          have hmany : manyIn ((es' ++ [(⟨A9, rn, c9, ab, (b + 1)⟩ : Pf)]).map Pf.is) rs = 1 := by rw [HC3.out.sum rs hrr2.1, if_pos (by omega)]
                          have HM := Lib.hid hmany
                          have hrR := hrr2.keep hbb14
                          have hzR := hzB.keep hbb14
                          have hrpR : RP w14 A11 (L + 1) (es' ++ [⟨A9, rn, c9, ab, (b + 1)⟩]) := RP.of_own (own_below HE.out.2.1 hb1014) HE.out.2.2.1 (HE.out.1.below hb1014)
                          have hvR : ∀ y ∈ es' ++ [(⟨A9, rn, c9, ab, (b + 1)⟩ : Pf)], Vp y.is := fun y hy => by
                            obtain ⟨l1, -, l3⟩ := HC3.out.ln y hy
                            exact ⟨by show isLen y.bs.length; rw [l1]; exact hl, by show y.k ≤ 8 * y.bs.length; rw [l1]; exact l3⟩
                          have hle1 : ((L : Int) + 1 ≤ 16 * rn) := by omega
                          have hsortR := sorted_c A11 (L + 1) c11 (es' ++ [⟨A9, rn, c9, ab, (b + 1)⟩]) z
                          unfold SortPost at hsortR
                          rw [HE.out.2.2.1] at hsortR
                          have HSO := Lib.hid hsortR
                          clear hmany hsortR
                          go_wp2_with fail
                          refine (howMany_c A11 (some ⟨gr, or, none⟩) (L + 1) rn c11 rc (es' ++ [⟨A9, rn, c9, ab, (b + 1)⟩]) rs z w14 hzR hrpR hvR (by omega) hrR (by simp) (by omega)).mono ?_
                          rintro e1 w16 ⟨rfl, hb16⟩
                          rw [HM.out]
                          have hzS := hzR.keep hb16
                          have hrpS := hrpR.keep hb16
                          have hbb16 := hbb14.trans (hb16.mono hbb14.size)
                          clear hzR hrpR hrR hb16
                          go_wp2_with fail
                          refine (HSO.out w16 hzS hrpS hvR (by omega)).mono ?_
                          rintro e1 w17 ⟨A17, c17, fs, rfl, hown17, hsort, hb17⟩
                          have hlf : fs.length = L + 1 := by rw [hsort.1.length_eq]; exact HE.out.2.2.1
                          have hrpF : RP w17 A17 (L + 1) fs := ⟨hlf, RC.of_own hown17, fun y hy => ((hrpS.2.2 y (hsort.1.subset hy)).keep hb17)⟩
                          have hsame := samePfs_c A17 A11 (L + 1) c17 c11 fs (es' ++ [⟨A9, rn, c9, ab, (b + 1)⟩]) w17 hrpF (hrpS.keep hb17) (hsort.all hvR) (hsort.same hvR HC3.out.sorted) (by omega)
                          have hbb17 := hbb16.trans (hb17.mono hbb16.size)
                          clear hown17 hsort hb17 hlf hrpF hrpS hbb16
                          go_wp2_with fail
                          refine hsame.mono ?_
                          rintro e1 w18 ⟨rfl, hb18⟩
                          have hbb18 := hbb17.trans (hb18.mono hbb17.size)
                          clear hsame hb18 hbb17
                          go_wp2
                          go_returns
                          exact ⟨rfl, hb0.trans (hbb18.mono hb0.size)⟩
                    · rw [show decide (wb ab (b + 1) true = as1) = false by simpa using hq3]
                      have hne : Lib.beNat (wb ab (b + 1) true) ≠ Lib.beNat as1 := fun h => hq3 (beNat_inj rn _ _ HE.out.2.2.2.2.2.2 HLL.out.2 h)
                      have hmax : Lib.beNat (wb ab (b + 1) true) + 1 < 256 ^ rn := by
                        have h1 := HE.out.2.2.2.2.1
                        have h2 := HE.out.2.2.2.2.2.1
                        omega
                      clear hq3
                      go_wp2_with fail
                      refine (following_c g11 0 rn c11' (wb ab (b + 1) true) w12 hr12 hl hmax).mono ?_
                      rintro e1 w13 ⟨v13, rfl, ⟨g13, c13, rfl, hown13⟩, hb13⟩
                      have hbb13 := hbb12.trans (hb13.mono hbb12.size)
                      have hown13' := own_mono hown13 hbb12.size
                      rw [HE.out.2.2.2.2.1] at hown13'
                      have hb1013 := hb1012.trans (hb13.mono hb1012.size)
                      have hrow13 := own_below HE.out.2.1 hb1013
                      rw [← HE.out.2.2.1] at hrow13
                      have H13 := Lib.hid (And.intro hown13' (And.intro hrow13 (HE.out.1.below hb1013)))
                      have hvle : vv + 2 ^ (8 * rn - (b + 1)) ≤ Lib.beNat as1 := by
                        have h1 := HE.out.2.2.2.2.1
                        have h2 := HE.out.2.2.2.2.2.1
                        omega
                      have hvge : Lib.beNat bs1 ≤ vv + 2 ^ (8 * rn - (b + 1)) := Nat.le_trans hv1 (Nat.le_add_right _ _)
                      have HV := Lib.hid (And.intro hvge hvle)
                      clear hown13 hown13' hrow13 hb13 hbb12 hb1012 hb1013 hr12 hne hmax hvle hvge
                      go_wp2
                      go_roundw
                      case rel => exact ⟨es' ++ [⟨A9, rn, c9, ab, (b + 1)⟩], vv + 2 ^ (8 * rn - (b + 1)), g13, c13, (by rw [HE.out.2.2.1] ; have := H13.out.2.1; rw [HE.out.2.2.1] at this; exact this), H13.out.2.2, rfl, H13.out.1, HV.out.1, HV.out.2, HE.out.2.2.2.1, hbb13⟩
                      case measure => simp only [lenOf]; omega
                  · rw [show decide (Lib.beNat as1 < Lib.beNat (wb ab b true)) = false by simpa using hq2]
                    have hen2 : vv + 2 ^ (8 * rn - b) ≤ Lib.beNat as1 + 1 := by have := HDV.out.2; omega
                    have cQ := hbq8.cell
                    have cP := hS8.box.cell
                    have fP := hS8.box.free
                    have lP := hS8.box.lt
                    have lQ := hbq8.lt
                    have hS9 := hS8.store b
                    have hb9 := ((hbb8.setCell (p := ⟨gP, 0, none⟩) hS8.le (.slice A9 rn c9)).setCell (p := ⟨gP, 1, none⟩) hS8.le (.string ⟨#[]⟩)).setCell (p := ⟨gP, 2, none⟩) hS8.le (.int .i64 b)
                    have HNAT := Lib.hid hS9.nat
                    have G1 := Lib.hid hS9
                    have G2 := Lib.hid hb9
                    clear hS9 hb9 hS8 hbq8 hbb8 hq2
                    go_wp2_with fail
                    go_roundw
                    case rel => exact ⟨b, by omega, G1.out, HDV.out.1, hen2, G2.out⟩
                    case measure => rw [HNAT.out, HNR.out]; omega
                · rw [show decide (wb ab b false = ab) = false by simpa using hq1]
                  have hG : Great rn (Lib.beNat as1) vv (b + 1) := ⟨hb, HAL.out.1, HAL.out.2, .inr (.inl (by rw [show 8 * rn - (b + 1) + 1 = 8 * rn - b by omega]; intro h; exact hq1 (first_eq.2 (by rw [HAB.out.1, HAB.out.2.1]; exact h))))⟩
                  have HG := Lib.hid hG
                  clear hG hq1
                  have hS := hS6
                  have hbX := hbb6
                  have hrow : w6.ownsRow wb1.heap.size 29 3 (.slice A7 L c7) L (pfCells es') := by have := hS.row; rw [← HL.out] at this; exact this
                  have cP := hS.box.cell
                  have hsz := hbX.size
                  have HSX := Lib.hid hS
                  have HROW := Lib.hid hrow
                  clear hS hrow
                  go_wp2_with ((at_builtin; refine append1 rfl _ _ 23 rfl (wb1.heap.size) 29 i0 (.agg #[.slice none 0 0, .string ⟨#[]⟩, .int .i64 0]) 3 48 Tryd.underlying23 hi hz0 hz1 hz2 rfl (by decide) _ _ _ rfl (HROW.out) _ _ [.slice A9 rn c9, .string ⟨#[]⟩, .int .i64 ((b : Int) + 1)] rfl (by simp) rfl rfl (by unfold maxLen; omega) (by omega) (by first | omega | (simp; omega)) ?_))
                  intro v10 w10 hown10 hgrow
                  have hxz : Below w6.heap.size w6 (w6.alloc (.cells #[.slice A9 rn c9, .string ⟨#[]⟩, .int .i64 ((b : Int) + 1)] 29)) := (Below.refl _ _).alloc (Nat.le_refl _) _
                  have hb10 : Below wb1.heap.size wb1 w10 := (hbX.trans (hxz.mono hbX.size)).grown hgrow (Nat.le_trans hbX.size hxz.size) (own_row_ge HROW.out)
                  have hSx := HSX.out.keep hxz
                  have hrowx := own_below HROW.out hxz
                  have hbx10 := hSx.box.grown hgrow (fun e => hSx.ne e.symm)
                  have hpl10 := hSx.pl.kept hgrow (own_ne hSx.pl hrowx (by decide))
                  have hes10 : ownPf w10 wb1.heap.size (es' ++ [⟨A9, rn, c9, ab, (b + 1)⟩]) := fun y hy => by
                    rcases List.mem_append.1 hy with hy | hy
                    · exact (hSx.own.grown hrowx (by decide) hgrow) y hy
                    · simp at hy; subst hy; exact hpl10
                  have hrow10 : w10.ownsRow wb1.heap.size 29 3 v10 (L + 1) (pfCells (es' ++ [(⟨A9, rn, c9, ab, (b + 1)⟩ : Pf)])) := by rw [pfCells_append]; exact hown10
                  have hlen2 : (es' ++ [(⟨A9, rn, c9, ab, (b + 1)⟩ : Pf)]).length = L + 1 := by rw [List.length_append, ← HL.out]; rfl
                  have hC2 := HAB.out.2.2.1.step hl hv1 hv2 (by rw [Nat.pow_mul]; exact hTl) HG.out ⟨A9, rn, c9, ab, (b + 1)⟩ HAB.out.1 rfl rfl HAB.out.2.1
                  have hlast := last_eq (bs := ab) (b := (b + 1)) (by rw [HAB.out.1, HAB.out.2.1]; exact HG.out.al)
                  rw [HAB.out.1, HAB.out.2.1] at hlast
                  have hbk := HG.out.le
                  have hen3 := HG.out.en
                  have hwl : (wb ab (b + 1) true).length = rn := by rw [wb_len, HAB.out.1]
                  obtain ⟨A11, c11, rfl⟩ := own_slice hrow10
                  have cP10 := hbx10.cell
                  have hrp10 := RB.of_own hpl10
                  have HE := Lib.hid (And.intro hes10 (And.intro hrow10 (And.intro hlen2 (And.intro hC2 (And.intro hlast (And.intro hen3 hwl))))))
                  clear hSx hrowx hbx10 hpl10 hes10 hrow10 hlen2 hC2 hlast hen3 hwl hown10 hgrow hxz HSX HROW hbX hsz
                  clear cP
                  go_wp2_with fail
                  refine (lastOf_c A9 rn c9 ab (b + 1) w10 hrp10 hl hbk).mono ?_
                  rintro e1 w11 ⟨v11, rfl, ⟨g11, c11', rfl, hown11⟩, hb11⟩
                  have hr11 := RB.of_own hown11
                  have hbb11 := hb10.trans (hb11.mono hb10.size)
                  have hrT11 := hra2.keep hbb11
                  clear cP10 hown11 hrp10
                  go_wp2_with fail
                  refine (equal_c (some ⟨g11, 0, none⟩) (some ⟨ga, oa, none⟩) rn rn c11' c (wb ab (b + 1) true) as1 w11 hr11 hrT11 (by omega)).mono ?_
                  rintro e1 w12 ⟨rfl, hb12⟩
                  have hbb12 := hbb11.trans (hb12.mono hbb11.size)
                  have hb1012 := hb11.trans (hb12.mono hb11.size)
                  have hr12 := hr11.keep hb12
                  clear hr11 hrT11 hbb11 hb11 hb12
                  by_cases hq3 : wb ab (b + 1) true = as1
                  · rw [show decide (wb ab (b + 1) true = as1) = true by simpa using hq3]
                    have hvT : vv + 2 ^ (8 * rn - (b + 1)) = Lib.beNat as1 + 1 := by rw [← HE.out.2.2.2.2.1, hq3]
                    have hC3 := HE.out.2.2.2.1
                    rw [hvT] at hC3
                    have HC3 := Lib.hid hC3
                    have hrF12 := hrb2.keep hbb12
                    have hrR12 := hrr2.keep hbb12
                    clear hq3 hvT hC3
                    go_wp2_with fail
                    refine (less_c (some ⟨gr, or, none⟩) (some ⟨gb, ob, none⟩) rn rc d rs bs1 w12 hrR12 hrF12 (by omega)).mono ?_
                    rintro e1 w13 ⟨rfl, hb13⟩
                    have hbb13 := hbb12.trans (hb13.mono hbb12.size)
                    have hb1013 := hb1012.trans (hb13.mono hb1012.size)
                    clear hr12 hrF12 hrR12 hb13 hb1012 hbb12
                    by_cases hp1 : Lib.beNat rs < Lib.beNat bs1
                    · rw [show decide (Lib.beNat rs < Lib.beNat bs1) = true by simpa using hp1]
                      have hmany : manyIn ((es' ++ [(⟨A9, rn, c9, ab, (b + 1)⟩ : Pf)]).map Pf.is) rs = 0 := by rw [HC3.out.sum rs hrr2.1, if_neg (by omega)]
                      have HM := Lib.hid hmany
                      have hrR := hrr2.keep hbb13
                      have hzR := hzB.keep hbb13
                      have hrpR : RP w13 A11 (L + 1) (es' ++ [⟨A9, rn, c9, ab, (b + 1)⟩]) := RP.of_own (own_below HE.out.2.1 hb1013) HE.out.2.2.1 (HE.out.1.below hb1013)
                      have hvR : ∀ y ∈ es' ++ [(⟨A9, rn, c9, ab, (b + 1)⟩ : Pf)], Vp y.is := fun y hy => by
                        obtain ⟨l1, -, l3⟩ := HC3.out.ln y hy
                        exact ⟨by show isLen y.bs.length; rw [l1]; exact hl, by show y.k ≤ 8 * y.bs.length; rw [l1]; exact l3⟩
                      have hle1 : ((L : Int) + 1 ≤ 16 * rn) := by omega
                      have hsortR := sorted_c A11 (L + 1) c11 (es' ++ [⟨A9, rn, c9, ab, (b + 1)⟩]) z
                      unfold SortPost at hsortR
                      rw [HE.out.2.2.1] at hsortR
                      have HSO := Lib.hid hsortR
                      clear hmany hsortR
                      go_wp2_with fail
                      refine (howMany_c A11 (some ⟨gr, or, none⟩) (L + 1) rn c11 rc (es' ++ [⟨A9, rn, c9, ab, (b + 1)⟩]) rs z w13 hzR hrpR hvR (by omega) hrR (by simp) (by omega)).mono ?_
                      rintro e1 w16 ⟨rfl, hb16⟩
                      rw [HM.out]
                      have hzS := hzR.keep hb16
                      have hrpS := hrpR.keep hb16
                      have hbb16 := hbb13.trans (hb16.mono hbb13.size)
                      clear hzR hrpR hrR hb16
                      go_wp2_with fail
                      refine (HSO.out w16 hzS hrpS hvR (by omega)).mono ?_
                      rintro e1 w17 ⟨A17, c17, fs, rfl, hown17, hsort, hb17⟩
                      have hlf : fs.length = L + 1 := by rw [hsort.1.length_eq]; exact HE.out.2.2.1
                      have hrpF : RP w17 A17 (L + 1) fs := ⟨hlf, RC.of_own hown17, fun y hy => ((hrpS.2.2 y (hsort.1.subset hy)).keep hb17)⟩
                      have hsame := samePfs_c A17 A11 (L + 1) c17 c11 fs (es' ++ [⟨A9, rn, c9, ab, (b + 1)⟩]) w17 hrpF (hrpS.keep hb17) (hsort.all hvR) (hsort.same hvR HC3.out.sorted) (by omega)
                      have hbb17 := hbb16.trans (hb17.mono hbb16.size)
                      clear hown17 hsort hb17 hlf hrpF hrpS hbb16
                      go_wp2_with fail
                      refine hsame.mono ?_
                      rintro e1 w18 ⟨rfl, hb18⟩
                      have hbb18 := hbb17.trans (hb18.mono hbb17.size)
                      clear hsame hb18 hbb17
                      go_wp2
                      go_returns
                      exact ⟨rfl, hb0.trans (hbb18.mono hb0.size)⟩
                    · rw [show decide (Lib.beNat rs < Lib.beNat bs1) = false by simpa using hp1]
                      have hrT13 := hra2.keep hbb13
                      have hrR13 := hrr2.keep hbb13
                      go_wp2_with fail
                      refine (less_c (some ⟨ga, oa, none⟩) (some ⟨gr, or, none⟩) rn c rc as1 rs w13 hrT13 hrR13 (by omega)).mono ?_
                      rintro e1 w14 ⟨rfl, hb14⟩
                      have hbb14 := hbb13.trans (hb14.mono hbb13.size)
                      have hb1014 := hb1013.trans (hb14.mono hb1013.size)
                      clear hrT13 hrR13 hb14 hb1013 hbb13
                      by_cases hp2 : Lib.beNat as1 < Lib.beNat rs
                      · rw [show decide (Lib.beNat as1 < Lib.beNat rs) = true by simpa using hp2]
                        have hmany : manyIn ((es' ++ [(⟨A9, rn, c9, ab, (b + 1)⟩ : Pf)]).map Pf.is) rs = 0 := by rw [HC3.out.sum rs hrr2.1, if_neg (by omega)]
                        have HM := Lib.hid hmany
                        have hrR := hrr2.keep hbb14
                        have hzR := hzB.keep hbb14
                        have hrpR : RP w14 A11 (L + 1) (es' ++ [⟨A9, rn, c9, ab, (b + 1)⟩]) := RP.of_own (own_below HE.out.2.1 hb1014) HE.out.2.2.1 (HE.out.1.below hb1014)
                        have hvR : ∀ y ∈ es' ++ [(⟨A9, rn, c9, ab, (b + 1)⟩ : Pf)], Vp y.is := fun y hy => by
                          obtain ⟨l1, -, l3⟩ := HC3.out.ln y hy
                          exact ⟨by show isLen y.bs.length; rw [l1]; exact hl, by show y.k ≤ 8 * y.bs.length; rw [l1]; exact l3⟩
                        have hle1 : ((L : Int) + 1 ≤ 16 * rn) := by omega
                        have hsortR := sorted_c A11 (L + 1) c11 (es' ++ [⟨A9, rn, c9, ab, (b + 1)⟩]) z
                        unfold SortPost at hsortR
                        rw [HE.out.2.2.1] at hsortR
                        have HSO := Lib.hid hsortR
                        clear hmany hsortR
                        go_wp2_with fail
                        refine (howMany_c A11 (some ⟨gr, or, none⟩) (L + 1) rn c11 rc (es' ++ [⟨A9, rn, c9, ab, (b + 1)⟩]) rs z w14 hzR hrpR hvR (by omega) hrR (by simp) (by omega)).mono ?_
                        rintro e1 w16 ⟨rfl, hb16⟩
                        rw [HM.out]
                        have hzS := hzR.keep hb16
                        have hrpS := hrpR.keep hb16
                        have hbb16 := hbb14.trans (hb16.mono hbb14.size)
                        clear hzR hrpR hrR hb16
                        go_wp2_with fail
                        refine (HSO.out w16 hzS hrpS hvR (by omega)).mono ?_
                        rintro e1 w17 ⟨A17, c17, fs, rfl, hown17, hsort, hb17⟩
                        have hlf : fs.length = L + 1 := by rw [hsort.1.length_eq]; exact HE.out.2.2.1
                        have hrpF : RP w17 A17 (L + 1) fs := ⟨hlf, RC.of_own hown17, fun y hy => ((hrpS.2.2 y (hsort.1.subset hy)).keep hb17)⟩
                        have hsame := samePfs_c A17 A11 (L + 1) c17 c11 fs (es' ++ [⟨A9, rn, c9, ab, (b + 1)⟩]) w17 hrpF (hrpS.keep hb17) (hsort.all hvR) (hsort.same hvR HC3.out.sorted) (by omega)
                        have hbb17 := hbb16.trans (hb17.mono hbb16.size)
                        clear hown17 hsort hb17 hlf hrpF hrpS hbb16
                        go_wp2_with fail
                        refine hsame.mono ?_
                        rintro e1 w18 ⟨rfl, hb18⟩
                        have hbb18 := hbb17.trans (hb18.mono hbb17.size)
                        clear hsame hb18 hbb17
                        go_wp2
                        go_returns
                        exact ⟨rfl, hb0.trans (hbb18.mono hb0.size)⟩
                      · rw [show decide (Lib.beNat as1 < Lib.beNat rs) = false by simpa using hp2]
                        have hmany : manyIn ((es' ++ [(⟨A9, rn, c9, ab, (b + 1)⟩ : Pf)]).map Pf.is) rs = 1 := by rw [HC3.out.sum rs hrr2.1, if_pos (by omega)]
                        have HM := Lib.hid hmany
                        have hrR := hrr2.keep hbb14
                        have hzR := hzB.keep hbb14
                        have hrpR : RP w14 A11 (L + 1) (es' ++ [⟨A9, rn, c9, ab, (b + 1)⟩]) := RP.of_own (own_below HE.out.2.1 hb1014) HE.out.2.2.1 (HE.out.1.below hb1014)
                        have hvR : ∀ y ∈ es' ++ [(⟨A9, rn, c9, ab, (b + 1)⟩ : Pf)], Vp y.is := fun y hy => by
                          obtain ⟨l1, -, l3⟩ := HC3.out.ln y hy
                          exact ⟨by show isLen y.bs.length; rw [l1]; exact hl, by show y.k ≤ 8 * y.bs.length; rw [l1]; exact l3⟩
                        have hle1 : ((L : Int) + 1 ≤ 16 * rn) := by omega
                        have hsortR := sorted_c A11 (L + 1) c11 (es' ++ [⟨A9, rn, c9, ab, (b + 1)⟩]) z
                        unfold SortPost at hsortR
                        rw [HE.out.2.2.1] at hsortR
                        have HSO := Lib.hid hsortR
                        clear hmany hsortR
                        go_wp2_with fail
                        refine (howMany_c A11 (some ⟨gr, or, none⟩) (L + 1) rn c11 rc (es' ++ [⟨A9, rn, c9, ab, (b + 1)⟩]) rs z w14 hzR hrpR hvR (by omega) hrR (by simp) (by omega)).mono ?_
                        rintro e1 w16 ⟨rfl, hb16⟩
                        rw [HM.out]
                        have hzS := hzR.keep hb16
                        have hrpS := hrpR.keep hb16
                        have hbb16 := hbb14.trans (hb16.mono hbb14.size)
                        clear hzR hrpR hrR hb16
                        go_wp2_with fail
                        refine (HSO.out w16 hzS hrpS hvR (by omega)).mono ?_
                        rintro e1 w17 ⟨A17, c17, fs, rfl, hown17, hsort, hb17⟩
                        have hlf : fs.length = L + 1 := by rw [hsort.1.length_eq]; exact HE.out.2.2.1
                        have hrpF : RP w17 A17 (L + 1) fs := ⟨hlf, RC.of_own hown17, fun y hy => ((hrpS.2.2 y (hsort.1.subset hy)).keep hb17)⟩
                        have hsame := samePfs_c A17 A11 (L + 1) c17 c11 fs (es' ++ [⟨A9, rn, c9, ab, (b + 1)⟩]) w17 hrpF (hrpS.keep hb17) (hsort.all hvR) (hsort.same hvR HC3.out.sorted) (by omega)
                        have hbb17 := hbb16.trans (hb17.mono hbb16.size)
                        clear hown17 hsort hb17 hlf hrpF hrpS hbb16
                        go_wp2_with fail
                        refine hsame.mono ?_
                        rintro e1 w18 ⟨rfl, hb18⟩
                        have hbb18 := hbb17.trans (hb18.mono hbb17.size)
                        clear hsame hb18 hbb17
                        go_wp2
                        go_returns
                        exact ⟨rfl, hb0.trans (hbb18.mono hb0.size)⟩
                  · rw [show decide (wb ab (b + 1) true = as1) = false by simpa using hq3]
                    have hne : Lib.beNat (wb ab (b + 1) true) ≠ Lib.beNat as1 := fun h => hq3 (beNat_inj rn _ _ HE.out.2.2.2.2.2.2 HLL.out.2 h)
                    have hmax : Lib.beNat (wb ab (b + 1) true) + 1 < 256 ^ rn := by
                      have h1 := HE.out.2.2.2.2.1
                      have h2 := HE.out.2.2.2.2.2.1
                      omega
                    clear hq3
                    go_wp2_with fail
                    refine (following_c g11 0 rn c11' (wb ab (b + 1) true) w12 hr12 hl hmax).mono ?_
                    rintro e1 w13 ⟨v13, rfl, ⟨g13, c13, rfl, hown13⟩, hb13⟩
                    have hbb13 := hbb12.trans (hb13.mono hbb12.size)
                    have hown13' := own_mono hown13 hbb12.size
                    rw [HE.out.2.2.2.2.1] at hown13'
                    have hb1013 := hb1012.trans (hb13.mono hb1012.size)
                    have hrow13 := own_below HE.out.2.1 hb1013
                    rw [← HE.out.2.2.1] at hrow13
                    have H13 := Lib.hid (And.intro hown13' (And.intro hrow13 (HE.out.1.below hb1013)))
                    have hvle : vv + 2 ^ (8 * rn - (b + 1)) ≤ Lib.beNat as1 := by
                      have h1 := HE.out.2.2.2.2.1
                      have h2 := HE.out.2.2.2.2.2.1
                      omega
                    have hvge : Lib.beNat bs1 ≤ vv + 2 ^ (8 * rn - (b + 1)) := Nat.le_trans hv1 (Nat.le_add_right _ _)
                    have HV := Lib.hid (And.intro hvge hvle)
                    clear hown13 hown13' hrow13 hb13 hbb12 hb1012 hb1013 hr12 hne hmax hvle hvge
                    go_wp2
                    go_roundw
                    case rel => exact ⟨es' ++ [⟨A9, rn, c9, ab, (b + 1)⟩], vv + 2 ^ (8 * rn - (b + 1)), g13, c13, (by rw [HE.out.2.2.1] ; have := H13.out.2.1; rw [HE.out.2.2.1] at this; exact this), H13.out.2.2, rfl, H13.out.1, HV.out.1, HV.out.2, HE.out.2.2.2.1, hbb13⟩
                    case measure => simp only [lenOf]; omega
        · rw [show decide (Lib.beNat bs1 < Lib.beNat as1) = false by simpa using hsw]
          have hFT : Lib.beNat as1 ≤ Lib.beNat bs1 := by omega
          clear hsw
          have hlF := hra2.1
          have hlT := hrb2.1
          have hTl := beNat_lt bs1
          rw [hlT] at hTl
          have hnews : ∀ (j : Nat) (u : Value), (Lib.byteCells as1)[j]? = some u → wb1.cell? ⟨ga, oa + j, none⟩ = some u := by
            intro j u hj
            have hj' : j < (as1).length := by have := (List.getElem?_eq_some_iff.1 hj).1; rw [byteCells_len] at this; exact this
            rw [byteCells_get as1 j hj'] at hj
            injection hj with hj
            subst hj
            obtain ⟨g1, o1, hA, -, hc0⟩ := hra2.2 (by omega)
            injection hA with hA
            injection hA with hA1 hA2
            subst hA1 hA2
            exact hc0 j (by omega)
          have hnews2 : ∀ (j : Nat) (u : Value), (Lib.byteCells as1)[j]? = some u → wb1.cell? ((⟨ga, oa, none⟩ : Addr).add j) = some u := fun j u hj => by
            have ha : (⟨ga, oa, none⟩ : Addr).add j = ⟨ga, oa + j, none⟩ := by unfold Addr.add; split <;> simp_all
            rw [ha]; exact hnews j u hj
          have hbl : (Lib.byteCells as1).length = rn * 1 := by rw [byteCells_len, hlF, Nat.mul_one]
          have hone : ∀ u ∈ Lib.byteCells as1, u.oneCell' = true := fun u hu => by simp [Lib.byteCells] at hu; obtain ⟨b, _, rfl⟩ := hu; rfl
          have h63 : 0 + rn ≤ maxLen := by unfold maxLen; omega
          have hby : (0 + rn) * 1 ≤ 140737488355328 := by omega
          have HN := Lib.hid (And.intro hbl (And.intro hnews2 (And.intro hone (And.intro h63 hby))))
          have HLL := Lib.hid (And.intro hlF hlT)
          clear hnews hnews2 hbl hone h63 hby hlF hlT
          go_wp2_with (at_builtin; refine wpList_append_own _ rfl _ _ 22 rfl wb1.heap.size 5 k0 (.int .u8 0) 1 1 Tryd.underlying22 hki hkz0 hkz1 hkz2 rfl (by decide) _ 0 [] rfl (World.ownsRow_nil _ _ _ _) ⟨ga, oa, none⟩ rn c (Lib.byteCells as1) rfl HN.out.1 HN.out.2.1 HN.out.2.2.1 HN.out.2.2.2.1 HN.out.2.2.2.2 (Nat.le_refl _) ?_)
          intro v1 w1 hown1 hgrow _
          have hb1 : Below wb1.heap.size wb1 w1 := below_grown hgrow (Nat.le_refl _) (by intro g hg; cases hg)
          try simp only [Nat.zero_add, List.nil_append] at hown1
          obtain ⟨A8, c8, rfl⟩ := own_slice hown1
          obtain ⟨g8, rfl, -, -⟩ := own_some hown1 (by omega)
          have HO1 := Lib.hid hown1
          clear hown1 hgrow HN
          go_wp2_with fail
          go_loopw [7, 8] (fun v a wr => ∃ (es' : List Pf) (vv g c8 : Nat), wr.ownsRow wb1.heap.size 29 3 v es'.length (pfCells es') ∧ ownPf wr wb1.heap.size es' ∧ a = .slice (some ⟨g, 0, none⟩) rn c8 ∧ wr.ownsRow wb1.heap.size 5 1 (.slice (some ⟨g, 0, none⟩) rn c8) rn (Lib.byteCells (Lib.beBytes rn vv)) ∧ Lib.beNat as1 ≤ vv ∧ vv ≤ Lib.beNat bs1 ∧ CovInv rn (Lib.beNat as1) (Lib.beNat bs1) vv es' ∧ Below wb1.heap.size wb1 wr) (fun v _ _ => 16 * rn - lenOf v)
          case atStart => exact ⟨[], Lib.beNat as1, g8, c8, World.ownsRow_nil _ _ _ _, fun e he => (by simp at he), rfl, by rw [← HLL.out.1, beBytes_beNat, HLL.out.1]; exact HO1.out, Nat.le_refl _, hFT, CovInv.start _ _ _, hb1⟩
          case round =>
            clear HO1 hb1
            obtain ⟨es', vv, g, c8', hown, hin, rfl, hat, hv1, hv2, hC, hbb⟩ := hrel
            obtain ⟨A7, c7, rfl⟩ := own_slice hown
            obtain ⟨ab, hab⟩ : ∃ ab, ab = Lib.beBytes rn vv := ⟨_, rfl⟩
            rw [← hab] at hat
            have habl : ab.length = rn := by rw [hab]; exact Lib.beBytes_length _ _
            have habn : Lib.beNat ab = vv := by rw [hab]; exact beNat_beBytes rn vv (by omega)
            have hlen16 := hC.len (by omega) hv2
            have HAB := Lib.hid (And.intro habl (And.intro habn (And.intro hC hab)))
            have HO := Lib.hid (And.intro hown (And.intro hin hat))
            have hrat := RB.of_own hat
            clear hab habl habn hC hown hin hat
            obtain ⟨L, hL⟩ : ∃ L, L = es'.length := ⟨_, rfl⟩
            rw [← hL] at hlen16 ⊢
            have HL := Lib.hid hL
            clear hL
            go_wp2_with fail
            refine (plain_c (some ⟨g, 0, none⟩) rn c8' ab wr hrat (by simp) (by omega)).mono ?_
            rintro e1 w2 ⟨A9, c9, rfl, hown9, hb2⟩
            have hxa : Below w2.heap.size w2 (w2.alloc (.cells #[.slice A9 rn c9, .string ⟨#[]⟩, .int .i64 (8 * (rn : Int))] 29)) := (Below.refl _ _).alloc (Nat.le_refl _) _
            have hbox : Blk (w2.alloc (.cells #[.slice A9 rn c9, .string ⟨#[]⟩, .int .i64 (8 * (rn : Int))] 29)) w2.heap.size 29 #[.slice A9 rn c9, .string ⟨#[]⟩, .int .i64 ((8 * rn : Nat) : Int)] := by push_cast; exact heap_alloc_new _ _
            obtain ⟨gP, hgP⟩ : ∃ gP, gP = w2.heap.size := ⟨_, rfl⟩
            rw [← hgP] at hbox
            have hb02 := hbb.trans (hb2.mono hbb.size)
            have hb03 := hb02.trans (hxa.mono hb02.size)
            have hS : CovS wb1.heap.size gP rn A9 c9 ab (.slice A7 L c7) es' (.slice (some ⟨g, 0, none⟩) rn c8') (8 * rn) (w2.alloc (.cells #[.slice A9 rn c9, .string ⟨#[]⟩, .int .i64 (8 * (rn : Int))] 29)) :=
              ⟨hbox, by rw [HL.out]; exact own_below (own_below HO.out.1 hb2) hxa, (HO.out.2.1.below hb2).below hxa, own_below (own_below HO.out.2.2 hb2) hxa, own_below (own_mono hown9 hbb.size) hxa, fun h => by
                rw [HL.out] at h
                have h5 := (HO.out.1.lt gP h).2
                have h6 := hb2.size
                omega, by rw [hgP]; exact hb02.size⟩
            have HX := Lib.hid (And.intro hS (And.intro hb03 hgP))
            clear hxa hbox hgP hb02 hb03 hS hown9 hb2 HO hrat hbb
            go_wp2_with fail
            obtain ⟨hS, hb03, hgP⟩ := HX.out
            rw [← hgP]
            clear HX hgP
            generalize w2.alloc (.cells #[.slice A9 rn c9, .string ⟨#[]⟩, .int .i64 (8 * (rn : Int))] 29) = w3 at *
            have HS3 := Lib.hid hS
            clear hS
            obtain ⟨wo, hwo⟩ : ∃ wo, wo = wr := ⟨_, rfl⟩
            subst hwo
            go_loopw [10] (fun _ wr => ∃ b : Nat, b ≤ 8 * rn ∧ CovS wb1.heap.size gP rn A9 c9 ab (.slice A7 L c7) es' (.slice (some ⟨g, 0, none⟩) rn c8') b wr ∧ 2 ^ (8 * rn - b) ∣ vv ∧ vv + 2 ^ (8 * rn - b) ≤ Lib.beNat bs1 + 1 ∧ Below wb1.heap.size wb1 wr) (fun _ wr => cellNat wr gP 2)
            case atStart => exact ⟨8 * rn, Nat.le_refl _, HS3.out, by simp, by simp; omega, hb03⟩
            case round =>
              clear HS3 hb03
              obtain ⟨b, hb, hS, hal, hen, hbb⟩ := hrel
              have HNR := Lib.hid hS.nat
              have hbox := hS.box
              have cP := hbox.cell
              have fP := hbox.free
              have lP := hbox.lt
              have HS := Lib.hid hS
              have HAL := Lib.hid (And.intro hal hen)
              clear hS hbox hal hen
              cases b with
              | zero =>
                have hG : Great rn (Lib.beNat bs1) vv 0 := ⟨by omega, HAL.out.1, HAL.out.2, .inl rfl⟩
                have HG := Lib.hid hG
                clear hG
                have hS := HS.out
                have hbX := hbb
                have hrow : wr.ownsRow wb1.heap.size 29 3 (.slice A7 L c7) L (pfCells es') := by have := hS.row; rw [← HL.out] at this; exact this
                have cP := hS.box.cell
                have hsz := hbX.size
                have HSX := Lib.hid hS
                have HROW := Lib.hid hrow
                clear hS hrow
                go_wp2_with ((at_builtin; refine append1 rfl _ _ 23 rfl (wb1.heap.size) 29 i0 (.agg #[.slice none 0 0, .string ⟨#[]⟩, .int .i64 0]) 3 48 Tryd.underlying23 hi hz0 hz1 hz2 rfl (by decide) _ _ _ rfl (HROW.out) _ _ [.slice A9 rn c9, .string ⟨#[]⟩, .int .i64 ((0 : Nat) : Int)] rfl (by simp) rfl rfl (by unfold maxLen; omega) (by omega) (by first | omega | (simp; omega)) ?_))
                intro v10 w10 hown10 hgrow
                have hxz : Below wr.heap.size wr (wr.alloc (.cells #[.slice A9 rn c9, .string ⟨#[]⟩, .int .i64 ((0 : Nat) : Int)] 29)) := (Below.refl _ _).alloc (Nat.le_refl _) _
                have hb10 : Below wb1.heap.size wb1 w10 := (hbX.trans (hxz.mono hbX.size)).grown hgrow (Nat.le_trans hbX.size hxz.size) (own_row_ge HROW.out)
                have hSx := HSX.out.keep hxz
                have hrowx := own_below HROW.out hxz
                have hbx10 := hSx.box.grown hgrow (fun e => hSx.ne e.symm)
                have hpl10 := hSx.pl.kept hgrow (own_ne hSx.pl hrowx (by decide))
                have hes10 : ownPf w10 wb1.heap.size (es' ++ [⟨A9, rn, c9, ab, 0⟩]) := fun y hy => by
                  rcases List.mem_append.1 hy with hy | hy
                  · exact (hSx.own.grown hrowx (by decide) hgrow) y hy
                  · simp at hy; subst hy; exact hpl10
                have hrow10 : w10.ownsRow wb1.heap.size 29 3 v10 (L + 1) (pfCells (es' ++ [(⟨A9, rn, c9, ab, 0⟩ : Pf)])) := by rw [pfCells_append]; exact hown10
                have hlen2 : (es' ++ [(⟨A9, rn, c9, ab, 0⟩ : Pf)]).length = L + 1 := by rw [List.length_append, ← HL.out]; rfl
                have hC2 := HAB.out.2.2.1.step hl hv1 hv2 (by rw [Nat.pow_mul]; exact hTl) HG.out ⟨A9, rn, c9, ab, 0⟩ HAB.out.1 rfl rfl HAB.out.2.1
                have hlast := last_eq (bs := ab) (b := 0) (by rw [HAB.out.1, HAB.out.2.1]; exact HG.out.al)
                rw [HAB.out.1, HAB.out.2.1] at hlast
                have hbk := HG.out.le
                have hen3 := HG.out.en
                have hwl : (wb ab 0 true).length = rn := by rw [wb_len, HAB.out.1]
                obtain ⟨A11, c11, rfl⟩ := own_slice hrow10
                have cP10 := hbx10.cell
                have hrp10 := RB.of_own hpl10
                have HE := Lib.hid (And.intro hes10 (And.intro hrow10 (And.intro hlen2 (And.intro hC2 (And.intro hlast (And.intro hen3 hwl))))))
                clear hSx hrowx hbx10 hpl10 hes10 hrow10 hlen2 hC2 hlast hen3 hwl hown10 hgrow hxz HSX HROW hbX hsz
                clear cP
                go_wp2_with fail
                refine (lastOf_c A9 rn c9 ab 0 w10 hrp10 hl hbk).mono ?_
                rintro e1 w11 ⟨v11, rfl, ⟨g11, c11', rfl, hown11⟩, hb11⟩
                have hr11 := RB.of_own hown11
                have hbb11 := hb10.trans (hb11.mono hb10.size)
                have hrT11 := hrb2.keep hbb11
                clear cP10 hown11 hrp10
                go_wp2_with fail
                refine (equal_c (some ⟨g11, 0, none⟩) (some ⟨gb, ob, none⟩) rn rn c11' d (wb ab 0 true) bs1 w11 hr11 hrT11 (by omega)).mono ?_
                rintro e1 w12 ⟨rfl, hb12⟩
                have hbb12 := hbb11.trans (hb12.mono hbb11.size)
                have hb1012 := hb11.trans (hb12.mono hb11.size)
                have hr12 := hr11.keep hb12
                clear hr11 hrT11 hbb11 hb11 hb12
                by_cases hq3 : wb ab 0 true = bs1
                · rw [show decide (wb ab 0 true = bs1) = true by simpa using hq3]
                  have hvT : vv + 2 ^ (8 * rn - 0) = Lib.beNat bs1 + 1 := by rw [← HE.out.2.2.2.2.1, hq3]
                  have hC3 := HE.out.2.2.2.1
                  rw [hvT] at hC3
                  have HC3 := Lib.hid hC3
                  have hrF12 := hra2.keep hbb12
                  have hrR12 := hrr2.keep hbb12
                  clear hq3 hvT hC3
                  go_wp2_with fail
                  refine (less_c (some ⟨gr, or, none⟩) (some ⟨ga, oa, none⟩) rn rc c rs as1 w12 hrR12 hrF12 (by omega)).mono ?_
                  rintro e1 w13 ⟨rfl, hb13⟩
                  have hbb13 := hbb12.trans (hb13.mono hbb12.size)
                  have hb1013 := hb1012.trans (hb13.mono hb1012.size)
                  clear hr12 hrF12 hrR12 hb13 hb1012 hbb12
                  by_cases hp1 : Lib.beNat rs < Lib.beNat as1
                  · rw [show decide (Lib.beNat rs < Lib.beNat as1) = true by simpa using hp1]
                    have hmany : manyIn ((es' ++ [(⟨A9, rn, c9, ab, 0⟩ : Pf)]).map Pf.is) rs = 0 := by rw [HC3.out.sum rs hrr2.1, if_neg (by omega)]
                    have HM := Lib.hid hmany
                    have hrR := hrr2.keep hbb13
                    have hzR := hzB.keep hbb13
                    have hrpR : RP w13 A11 (L + 1) (es' ++ [⟨A9, rn, c9, ab, 0⟩]) := RP.of_own (own_below HE.out.2.1 hb1013) HE.out.2.2.1 (HE.out.1.below hb1013)
                    have hvR : ∀ y ∈ es' ++ [(⟨A9, rn, c9, ab, 0⟩ : Pf)], Vp y.is := fun y hy => by
                      obtain ⟨l1, -, l3⟩ := HC3.out.ln y hy
                      exact ⟨by show isLen y.bs.length; rw [l1]; exact hl, by show y.k ≤ 8 * y.bs.length; rw [l1]; exact l3⟩
                    have hle1 : ((L : Int) + 1 ≤ 16 * rn) := by omega
                    have hsortR := sorted_c A11 (L + 1) c11 (es' ++ [⟨A9, rn, c9, ab, 0⟩]) z
                    unfold SortPost at hsortR
                    rw [HE.out.2.2.1] at hsortR
                    have HSO := Lib.hid hsortR
                    clear hmany hsortR
                    go_wp2_with fail
                    refine (howMany_c A11 (some ⟨gr, or, none⟩) (L + 1) rn c11 rc (es' ++ [⟨A9, rn, c9, ab, 0⟩]) rs z w13 hzR hrpR hvR (by omega) hrR (by simp) (by omega)).mono ?_
                    rintro e1 w16 ⟨rfl, hb16⟩
                    rw [HM.out]
                    have hzS := hzR.keep hb16
                    have hrpS := hrpR.keep hb16
                    have hbb16 := hbb13.trans (hb16.mono hbb13.size)
                    clear hzR hrpR hrR hb16
                    go_wp2_with fail
                    refine (HSO.out w16 hzS hrpS hvR (by omega)).mono ?_
                    rintro e1 w17 ⟨A17, c17, fs, rfl, hown17, hsort, hb17⟩
                    have hlf : fs.length = L + 1 := by rw [hsort.1.length_eq]; exact HE.out.2.2.1
                    have hrpF : RP w17 A17 (L + 1) fs := ⟨hlf, RC.of_own hown17, fun y hy => ((hrpS.2.2 y (hsort.1.subset hy)).keep hb17)⟩
                    have hsame := samePfs_c A17 A11 (L + 1) c17 c11 fs (es' ++ [⟨A9, rn, c9, ab, 0⟩]) w17 hrpF (hrpS.keep hb17) (hsort.all hvR) (hsort.same hvR HC3.out.sorted) (by omega)
                    have hbb17 := hbb16.trans (hb17.mono hbb16.size)
                    clear hown17 hsort hb17 hlf hrpF hrpS hbb16
                    go_wp2_with fail
                    refine hsame.mono ?_
                    rintro e1 w18 ⟨rfl, hb18⟩
                    have hbb18 := hbb17.trans (hb18.mono hbb17.size)
                    clear hsame hb18 hbb17
                    go_wp2
                    go_returns
                    exact ⟨rfl, hb0.trans (hbb18.mono hb0.size)⟩
                  · rw [show decide (Lib.beNat rs < Lib.beNat as1) = false by simpa using hp1]
                    have hrT13 := hrb2.keep hbb13
                    have hrR13 := hrr2.keep hbb13
                    go_wp2_with fail
                    refine (less_c (some ⟨gb, ob, none⟩) (some ⟨gr, or, none⟩) rn d rc bs1 rs w13 hrT13 hrR13 (by omega)).mono ?_
                    rintro e1 w14 ⟨rfl, hb14⟩
                    have hbb14 := hbb13.trans (hb14.mono hbb13.size)
                    have hb1014 := hb1013.trans (hb14.mono hb1013.size)
                    clear hrT13 hrR13 hb14 hb1013 hbb13
                    by_cases hp2 : Lib.beNat bs1 < Lib.beNat rs
                    · rw [show decide (Lib.beNat bs1 < Lib.beNat rs) = true by simpa using hp2]
                      have hmany : manyIn ((es' ++ [(⟨A9, rn, c9, ab, 0⟩ : Pf)]).map Pf.is) rs = 0 := by rw [HC3.out.sum rs hrr2.1, if_neg (by omega)]
                      have HM := Lib.hid hmany
                      have hrR := hrr2.keep hbb14
                      have hzR := hzB.keep hbb14
                      have hrpR : RP w14 A11 (L + 1) (es' ++ [⟨A9, rn, c9, ab, 0⟩]) := RP.of_own (own_below HE.out.2.1 hb1014) HE.out.2.2.1 (HE.out.1.below hb1014)
                      have hvR : ∀ y ∈ es' ++ [(⟨A9, rn, c9, ab, 0⟩ : Pf)], Vp y.is := fun y hy => by
                        obtain ⟨l1, -, l3⟩ := HC3.out.ln y hy
                        exact ⟨by show isLen y.bs.length; rw [l1]; exact hl, by show y.k ≤ 8 * y.bs.length; rw [l1]; exact l3⟩
                      have hle1 : ((L : Int) + 1 ≤ 16 * rn) := by omega
                      have hsortR := sorted_c A11 (L + 1) c11 (es' ++ [⟨A9, rn, c9, ab, 0⟩]) z
                      unfold SortPost at hsortR
                      rw [HE.out.2.2.1] at hsortR
                      have HSO := Lib.hid hsortR
                      clear hmany hsortR
                      go_wp2_with fail
                      refine (howMany_c A11 (some ⟨gr, or, none⟩) (L + 1) rn c11 rc (es' ++ [⟨A9, rn, c9, ab, 0⟩]) rs z w14 hzR hrpR hvR (by omega) hrR (by simp) (by omega)).mono ?_
                      rintro e1 w16 ⟨rfl, hb16⟩
                      rw [HM.out]
                      have hzS := hzR.keep hb16
                      have hrpS := hrpR.keep hb16
                      have hbb16 := hbb14.trans (hb16.mono hbb14.size)
                      clear hzR hrpR hrR hb16
                      go_wp2_with fail
                      refine (HSO.out w16 hzS hrpS hvR (by omega)).mono ?_
                      rintro e1 w17 ⟨A17, c17, fs, rfl, hown17, hsort, hb17⟩
                      have hlf : fs.length = L + 1 := by rw [hsort.1.length_eq]; exact HE.out.2.2.1
                      have hrpF : RP w17 A17 (L + 1) fs := ⟨hlf, RC.of_own hown17, fun y hy => ((hrpS.2.2 y (hsort.1.subset hy)).keep hb17)⟩
                      have hsame := samePfs_c A17 A11 (L + 1) c17 c11 fs (es' ++ [⟨A9, rn, c9, ab, 0⟩]) w17 hrpF (hrpS.keep hb17) (hsort.all hvR) (hsort.same hvR HC3.out.sorted) (by omega)
                      have hbb17 := hbb16.trans (hb17.mono hbb16.size)
                      clear hown17 hsort hb17 hlf hrpF hrpS hbb16
                      go_wp2_with fail
                      refine hsame.mono ?_
                      rintro e1 w18 ⟨rfl, hb18⟩
                      have hbb18 := hbb17.trans (hb18.mono hbb17.size)
                      clear hsame hb18 hbb17
                      go_wp2
                      go_returns
                      exact ⟨rfl, hb0.trans (hbb18.mono hb0.size)⟩
                    · rw [show decide (Lib.beNat bs1 < Lib.beNat rs) = false by simpa using hp2]
                      have hmany : manyIn ((es' ++ [(⟨A9, rn, c9, ab, 0⟩ : Pf)]).map Pf.is) rs = 1 := by rw [HC3.out.sum rs hrr2.1, if_pos (by omega)]
                      have HM := Lib.hid hmany
                      have hrR := hrr2.keep hbb14
                      have hzR := hzB.keep hbb14
                      have hrpR : RP w14 A11 (L + 1) (es' ++ [⟨A9, rn, c9, ab, 0⟩]) := RP.of_own (own_below HE.out.2.1 hb1014) HE.out.2.2.1 (HE.out.1.below hb1014)
                      have hvR : ∀ y ∈ es' ++ [(⟨A9, rn, c9, ab, 0⟩ : Pf)], Vp y.is := fun y hy => by
                        obtain ⟨l1, -, l3⟩ := HC3.out.ln y hy
                        exact ⟨by show isLen y.bs.length; rw [l1]; exact hl, by show y.k ≤ 8 * y.bs.length; rw [l1]; exact l3⟩
                      have hle1 : ((L : Int) + 1 ≤ 16 * rn) := by omega
                      have hsortR := sorted_c A11 (L + 1) c11 (es' ++ [⟨A9, rn, c9, ab, 0⟩]) z
                      unfold SortPost at hsortR
                      rw [HE.out.2.2.1] at hsortR
                      have HSO := Lib.hid hsortR
                      clear hmany hsortR
                      go_wp2_with fail
                      refine (howMany_c A11 (some ⟨gr, or, none⟩) (L + 1) rn c11 rc (es' ++ [⟨A9, rn, c9, ab, 0⟩]) rs z w14 hzR hrpR hvR (by omega) hrR (by simp) (by omega)).mono ?_
                      rintro e1 w16 ⟨rfl, hb16⟩
                      rw [HM.out]
                      have hzS := hzR.keep hb16
                      have hrpS := hrpR.keep hb16
                      have hbb16 := hbb14.trans (hb16.mono hbb14.size)
                      clear hzR hrpR hrR hb16
                      go_wp2_with fail
                      refine (HSO.out w16 hzS hrpS hvR (by omega)).mono ?_
                      rintro e1 w17 ⟨A17, c17, fs, rfl, hown17, hsort, hb17⟩
                      have hlf : fs.length = L + 1 := by rw [hsort.1.length_eq]; exact HE.out.2.2.1
                      have hrpF : RP w17 A17 (L + 1) fs := ⟨hlf, RC.of_own hown17, fun y hy => ((hrpS.2.2 y (hsort.1.subset hy)).keep hb17)⟩
                      have hsame := samePfs_c A17 A11 (L + 1) c17 c11 fs (es' ++ [⟨A9, rn, c9, ab, 0⟩]) w17 hrpF (hrpS.keep hb17) (hsort.all hvR) (hsort.same hvR HC3.out.sorted) (by omega)
                      have hbb17 := hbb16.trans (hb17.mono hbb16.size)
                      clear hown17 hsort hb17 hlf hrpF hrpS hbb16
                      go_wp2_with fail
                      refine hsame.mono ?_
                      rintro e1 w18 ⟨rfl, hb18⟩
                      have hbb18 := hbb17.trans (hb18.mono hbb17.size)
                      clear hsame hb18 hbb17
                      go_wp2
                      go_returns
                      exact ⟨rfl, hb0.trans (hbb18.mono hb0.size)⟩
                · rw [show decide (wb ab 0 true = bs1) = false by simpa using hq3]
                  have hne : Lib.beNat (wb ab 0 true) ≠ Lib.beNat bs1 := fun h => hq3 (beNat_inj rn _ _ HE.out.2.2.2.2.2.2 HLL.out.2 h)
                  have hmax : Lib.beNat (wb ab 0 true) + 1 < 256 ^ rn := by
                    have h1 := HE.out.2.2.2.2.1
                    have h2 := HE.out.2.2.2.2.2.1
                    omega
                  clear hq3
                  go_wp2_with fail
                  refine (following_c g11 0 rn c11' (wb ab 0 true) w12 hr12 hl hmax).mono ?_
                  rintro e1 w13 ⟨v13, rfl, ⟨g13, c13, rfl, hown13⟩, hb13⟩
                  have hbb13 := hbb12.trans (hb13.mono hbb12.size)
                  have hown13' := own_mono hown13 hbb12.size
                  rw [HE.out.2.2.2.2.1] at hown13'
                  have hb1013 := hb1012.trans (hb13.mono hb1012.size)
                  have hrow13 := own_below HE.out.2.1 hb1013
                  rw [← HE.out.2.2.1] at hrow13
                  have H13 := Lib.hid (And.intro hown13' (And.intro hrow13 (HE.out.1.below hb1013)))
                  have hvle : vv + 2 ^ (8 * rn - 0) ≤ Lib.beNat bs1 := by
                    have h1 := HE.out.2.2.2.2.1
                    have h2 := HE.out.2.2.2.2.2.1
                    omega
                  have hvge : Lib.beNat as1 ≤ vv + 2 ^ (8 * rn - 0) := Nat.le_trans hv1 (Nat.le_add_right _ _)
                  have HV := Lib.hid (And.intro hvge hvle)
                  clear hown13 hown13' hrow13 hb13 hbb12 hb1012 hb1013 hr12 hne hmax hvle hvge
                  go_wp2
                  go_roundw
                  case rel => exact ⟨es' ++ [⟨A9, rn, c9, ab, 0⟩], vv + 2 ^ (8 * rn - 0), g13, c13, (by rw [HE.out.2.2.1] ; have := H13.out.2.1; rw [HE.out.2.2.1] at this; exact this), H13.out.2.2, rfl, H13.out.1, HV.out.1, HV.out.2, HE.out.2.2.2.1, hbb13⟩
                  case measure => simp only [lenOf]; omega
              | succ b =>
                have hxa : Below wr.heap.size wr (wr.alloc (.cells #[.slice A9 rn c9, .string ⟨#[]⟩, .int .i64 (b : Int)] 29)) := (Below.refl _ _).alloc (Nat.le_refl _) _
                have hboxq : Blk (wr.alloc (.cells #[.slice A9 rn c9, .string ⟨#[]⟩, .int .i64 (b : Int)] 29)) wr.heap.size 29 #[.slice A9 rn c9, .string ⟨#[]⟩, .int .i64 (b : Int)] := heap_alloc_new _ _
                obtain ⟨gQ, hgQ⟩ : ∃ gQ, gQ = wr.heap.size := ⟨_, rfl⟩
                rw [← hgQ] at hboxq
                have HX := Lib.hid (And.intro hgQ (And.intro hboxq (And.intro (hbb.trans (hxa.mono hbb.size)) (HS.out.keep hxa))))
                clear hgQ hboxq hxa hbb HS
                go_wp2_with fail
                obtain ⟨hgQ, hboxq, hbb, hS⟩ := HX.out
                rw [← hgQ]
                clear HX hgQ cP fP lP
                generalize wr.alloc (.cells #[.slice A9 rn c9, .string ⟨#[]⟩, .int .i64 (b : Int)] 29) = w4 at *
                refine (firstOf_c A9 rn c9 ab b w4 (RB.of_own hS.pl) hl (by omega)).mono ?_
                rintro e1 w5 ⟨v5, rfl, ⟨g5, c5, rfl, hown5⟩, hb5⟩
                have hS5 := hS.keep hb5
                have hbb5 := hbb.trans (hb5.mono hbb.size)
                have hbq5 := hboxq.below hb5
                have hr5 := RB.of_own hown5
                have hra5 := RB.of_own hS5.row2
                clear hS hbb hboxq hown5 hb5
                go_wp2_with fail
                refine (equal_c (some ⟨g5, 0, none⟩) (some ⟨g, 0, none⟩) rn rn c5 c8' (wb ab b false) ab w5 hr5 hra5 (by omega)).mono ?_
                rintro e1 w6 ⟨rfl, hb6⟩
                have hS6 := hS5.keep hb6
                have hbb6 := hbb5.trans (hb6.mono hbb5.size)
                have hbq6 := hbq5.below hb6
                clear hS5 hbb5 hbq5 hr5 hra5 hb6
                by_cases hq1 : wb ab b false = ab
                · rw [show decide (wb ab b false = ab) = true by simpa using hq1]
                  have hdv : 2 ^ (8 * rn - b) ∣ vv := by have := first_eq.1 hq1; rw [HAB.out.1, HAB.out.2.1] at this; exact this
                  have hla := last_eq (bs := ab) (b := b) (by rw [HAB.out.1, HAB.out.2.1]; exact hdv)
                  rw [HAB.out.1, HAB.out.2.1] at hla
                  have cQ := hbq6.cell
                  have hrp6 := RB.of_own hS6.pl
                  have HDV := Lib.hid (And.intro hdv hla)
                  clear hdv hla hq1
                  go_wp2_with fail
                  refine (lastOf_c A9 rn c9 ab b w6 hrp6 hl (by omega)).mono ?_
                  rintro e1 w7 ⟨v7, rfl, ⟨g7, c7', rfl, hown7⟩, hb7⟩
                  have hS7 := hS6.keep hb7
                  have hbb7 := hbb6.trans (hb7.mono hbb6.size)
                  have hbq7 := hbq6.below hb7
                  have hr7 := RB.of_own hown7
                  have hrt7 := hrb2.keep hbb7
                  clear hS6 hbb6 hbq6 cQ hrp6 hown7 hb7
                  go_wp2_with fail
                  refine (less_c (some ⟨gb, ob, none⟩) (some ⟨g7, 0, none⟩) rn d c7' bs1 (wb ab b true) w7 hrt7 hr7 (by omega)).mono ?_
                  rintro e1 w8 ⟨rfl, hb8⟩
                  have hS8 := hS7.keep hb8
                  have hbb8 := hbb7.trans (hb8.mono hbb7.size)
                  have hbq8 := hbq7.below hb8
                  clear hS7 hbb7 hbq7 hr7 hrt7 hb8
                  by_cases hq2 : Lib.beNat bs1 < Lib.beNat (wb ab b true)
                  · rw [show decide (Lib.beNat bs1 < Lib.beNat (wb ab b true)) = true by simpa using hq2]
                    have hG : Great rn (Lib.beNat bs1) vv (b + 1) := ⟨hb, HAL.out.1, HAL.out.2, .inr (.inr (by rw [show 8 * rn - (b + 1) + 1 = 8 * rn - b by omega]; have := HDV.out.2; omega))⟩
                    have HG := Lib.hid hG
                    clear hG hq2
                    have hS := hS8
                    have hbX := hbb8
                    have hrow : w8.ownsRow wb1.heap.size 29 3 (.slice A7 L c7) L (pfCells es') := by have := hS.row; rw [← HL.out] at this; exact this
                    have cP := hS.box.cell
                    have hsz := hbX.size
                    have HSX := Lib.hid hS
                    have HROW := Lib.hid hrow
                    clear hS hrow
                    go_wp2_with ((at_builtin; refine append1 rfl _ _ 23 rfl (wb1.heap.size) 29 i0 (.agg #[.slice none 0 0, .string ⟨#[]⟩, .int .i64 0]) 3 48 Tryd.underlying23 hi hz0 hz1 hz2 rfl (by decide) _ _ _ rfl (HROW.out) _ _ [.slice A9 rn c9, .string ⟨#[]⟩, .int .i64 ((b : Int) + 1)] rfl (by simp) rfl rfl (by unfold maxLen; omega) (by omega) (by first | omega | (simp; omega)) ?_))
                    intro v10 w10 hown10 hgrow
                    have hxz : Below w8.heap.size w8 (w8.alloc (.cells #[.slice A9 rn c9, .string ⟨#[]⟩, .int .i64 ((b : Int) + 1)] 29)) := (Below.refl _ _).alloc (Nat.le_refl _) _
                    have hb10 : Below wb1.heap.size wb1 w10 := (hbX.trans (hxz.mono hbX.size)).grown hgrow (Nat.le_trans hbX.size hxz.size) (own_row_ge HROW.out)
                    have hSx := HSX.out.keep hxz
                    have hrowx := own_below HROW.out hxz
                    have hbx10 := hSx.box.grown hgrow (fun e => hSx.ne e.symm)
                    have hpl10 := hSx.pl.kept hgrow (own_ne hSx.pl hrowx (by decide))
                    have hes10 : ownPf w10 wb1.heap.size (es' ++ [⟨A9, rn, c9, ab, (b + 1)⟩]) := fun y hy => by
                      rcases List.mem_append.1 hy with hy | hy
                      · exact (hSx.own.grown hrowx (by decide) hgrow) y hy
                      · simp at hy; subst hy; exact hpl10
                    have hrow10 : w10.ownsRow wb1.heap.size 29 3 v10 (L + 1) (pfCells (es' ++ [(⟨A9, rn, c9, ab, (b + 1)⟩ : Pf)])) := by rw [pfCells_append]; exact hown10
                    have hlen2 : (es' ++ [(⟨A9, rn, c9, ab, (b + 1)⟩ : Pf)]).length = L + 1 := by rw [List.length_append, ← HL.out]; rfl
                    have hC2 := HAB.out.2.2.1.step hl hv1 hv2 (by rw [Nat.pow_mul]; exact hTl) HG.out ⟨A9, rn, c9, ab, (b + 1)⟩ HAB.out.1 rfl rfl HAB.out.2.1
                    have hlast := last_eq (bs := ab) (b := (b + 1)) (by rw [HAB.out.1, HAB.out.2.1]; exact HG.out.al)
                    rw [HAB.out.1, HAB.out.2.1] at hlast
                    have hbk := HG.out.le
                    have hen3 := HG.out.en
                    have hwl : (wb ab (b + 1) true).length = rn := by rw [wb_len, HAB.out.1]
                    obtain ⟨A11, c11, rfl⟩ := own_slice hrow10
                    have cP10 := hbx10.cell
                    have hrp10 := RB.of_own hpl10
                    have HE := Lib.hid (And.intro hes10 (And.intro hrow10 (And.intro hlen2 (And.intro hC2 (And.intro hlast (And.intro hen3 hwl))))))
                    clear hSx hrowx hbx10 hpl10 hes10 hrow10 hlen2 hC2 hlast hen3 hwl hown10 hgrow hxz HSX HROW hbX hsz
                    clear cP
                    go_wp2_with fail
                    refine (lastOf_c A9 rn c9 ab (b + 1) w10 hrp10 hl hbk).mono ?_
                    rintro e1 w11 ⟨v11, rfl, ⟨g11, c11', rfl, hown11⟩, hb11⟩
                    have hr11 := RB.of_own hown11
                    have hbb11 := hb10.trans (hb11.mono hb10.size)
                    have hrT11 := hrb2.keep hbb11
                    clear cP10 hown11 hrp10
                    go_wp2_with fail
                    refine (equal_c (some ⟨g11, 0, none⟩) (some ⟨gb, ob, none⟩) rn rn c11' d (wb ab (b + 1) true) bs1 w11 hr11 hrT11 (by omega)).mono ?_
                    rintro e1 w12 ⟨rfl, hb12⟩
                    have hbb12 := hbb11.trans (hb12.mono hbb11.size)
                    have hb1012 := hb11.trans (hb12.mono hb11.size)
                    have hr12 := hr11.keep hb12
                    clear hr11 hrT11 hbb11 hb11 hb12
                    by_cases hq3 : wb ab (b + 1) true = bs1
                    · rw [show decide (wb ab (b + 1) true = bs1) = true by simpa using hq3]
                      have hvT : vv + 2 ^ (8 * rn - (b + 1)) = Lib.beNat bs1 + 1 := by rw [← HE.out.2.2.2.2.1, hq3]
                      have hC3 := HE.out.2.2.2.1
                      rw [hvT] at hC3
                      have HC3 := Lib.hid hC3
                      have hrF12 := hra2.keep hbb12
                      have hrR12 := hrr2.keep hbb12
                      clear hq3 hvT hC3
                      go_wp2_with fail
                      refine (less_c (some ⟨gr, or, none⟩) (some ⟨ga, oa, none⟩) rn rc c rs as1 w12 hrR12 hrF12 (by omega)).mono ?_
                      rintro e1 w13 ⟨rfl, hb13⟩
                      have hbb13 := hbb12.trans (hb13.mono hbb12.size)
                      have hb1013 := hb1012.trans (hb13.mono hb1012.size)
                      clear hr12 hrF12 hrR12 hb13 hb1012 hbb12
                      by_cases hp1 : Lib.beNat rs < Lib.beNat as1
                      · rw [show decide (Lib.beNat rs < Lib.beNat as1) = true by simpa using hp1]
                        have hmany : manyIn ((es' ++ [(⟨A9, rn, c9, ab, (b + 1)⟩ : Pf)]).map Pf.is) rs = 0 := by rw [HC3.out.sum rs hrr2.1, if_neg (by omega)]
                        have HM := Lib.hid hmany
                        have hrR := hrr2.keep hbb13
                        have hzR := hzB.keep hbb13
                        have hrpR : RP w13 A11 (L + 1) (es' ++ [⟨A9, rn, c9, ab, (b + 1)⟩]) := RP.of_own (own_below HE.out.2.1 hb1013) HE.out.2.2.1 (HE.out.1.below hb1013)
                        have hvR : ∀ y ∈ es' ++ [(⟨A9, rn, c9, ab, (b + 1)⟩ : Pf)], Vp y.is := fun y hy => by
                          obtain ⟨l1, -, l3⟩ := HC3.out.ln y hy
                          exact ⟨by show isLen y.bs.length; rw [l1]; exact hl, by show y.k ≤ 8 * y.bs.length; rw [l1]; exact l3⟩
                        have hle1 : ((L : Int) + 1 ≤ 16 * rn) := by omega
                        have hsortR := sorted_c A11 (L + 1) c11 (es' ++ [⟨A9, rn, c9, ab, (b + 1)⟩]) z
                        unfold SortPost at hsortR
                        rw [HE.out.2.2.1] at hsortR
                        have HSO := Lib.hid hsortR
                        clear hmany hsortR
                        go_wp2_with fail
                        refine (howMany_c A11 (some ⟨gr, or, none⟩) (L + 1) rn c11 rc (es' ++ [⟨A9, rn, c9, ab, (b + 1)⟩]) rs z w13 hzR hrpR hvR (by omega) hrR (by simp) (by omega)).mono ?_
                        rintro e1 w16 ⟨rfl, hb16⟩
                        rw [HM.out]
                        have hzS := hzR.keep hb16
                        have hrpS := hrpR.keep hb16
                        have hbb16 := hbb13.trans (hb16.mono hbb13.size)
                        clear hzR hrpR hrR hb16
                        go_wp2_with fail
                        refine (HSO.out w16 hzS hrpS hvR (by omega)).mono ?_
                        rintro e1 w17 ⟨A17, c17, fs, rfl, hown17, hsort, hb17⟩
                        have hlf : fs.length = L + 1 := by rw [hsort.1.length_eq]; exact HE.out.2.2.1
                        have hrpF : RP w17 A17 (L + 1) fs := ⟨hlf, RC.of_own hown17, fun y hy => ((hrpS.2.2 y (hsort.1.subset hy)).keep hb17)⟩
                        have hsame := samePfs_c A17 A11 (L + 1) c17 c11 fs (es' ++ [⟨A9, rn, c9, ab, (b + 1)⟩]) w17 hrpF (hrpS.keep hb17) (hsort.all hvR) (hsort.same hvR HC3.out.sorted) (by omega)
                        have hbb17 := hbb16.trans (hb17.mono hbb16.size)
                        clear hown17 hsort hb17 hlf hrpF hrpS hbb16
                        go_wp2_with fail
                        refine hsame.mono ?_
                        rintro e1 w18 ⟨rfl, hb18⟩
                        have hbb18 := hbb17.trans (hb18.mono hbb17.size)
                        clear hsame hb18 hbb17
                        go_wp2
                        go_returns
                        exact ⟨rfl, hb0.trans (hbb18.mono hb0.size)⟩
                      · rw [show decide (Lib.beNat rs < Lib.beNat as1) = false by simpa using hp1]
                        have hrT13 := hrb2.keep hbb13
                        have hrR13 := hrr2.keep hbb13
                        go_wp2_with fail
                        refine (less_c (some ⟨gb, ob, none⟩) (some ⟨gr, or, none⟩) rn d rc bs1 rs w13 hrT13 hrR13 (by omega)).mono ?_
                        rintro e1 w14 ⟨rfl, hb14⟩
                        have hbb14 := hbb13.trans (hb14.mono hbb13.size)
                        have hb1014 := hb1013.trans (hb14.mono hb1013.size)
                        clear hrT13 hrR13 hb14 hb1013 hbb13
                        by_cases hp2 : Lib.beNat bs1 < Lib.beNat rs
                        · rw [show decide (Lib.beNat bs1 < Lib.beNat rs) = true by simpa using hp2]
                          have hmany : manyIn ((es' ++ [(⟨A9, rn, c9, ab, (b + 1)⟩ : Pf)]).map Pf.is) rs = 0 := by rw [HC3.out.sum rs hrr2.1, if_neg (by omega)]
                          have HM := Lib.hid hmany
                          have hrR := hrr2.keep hbb14
                          have hzR := hzB.keep hbb14
                          have hrpR : RP w14 A11 (L + 1) (es' ++ [⟨A9, rn, c9, ab, (b + 1)⟩]) := RP.of_own (own_below HE.out.2.1 hb1014) HE.out.2.2.1 (HE.out.1.below hb1014)
                          have hvR : ∀ y ∈ es' ++ [(⟨A9, rn, c9, ab, (b + 1)⟩ : Pf)], Vp y.is := fun y hy => by
                            obtain ⟨l1, -, l3⟩ := HC3.out.ln y hy
                            exact ⟨by show isLen y.bs.length; rw [l1]; exact hl, by show y.k ≤ 8 * y.bs.length; rw [l1]; exact l3⟩
                          have hle1 : ((L : Int) + 1 ≤ 16 * rn) := by omega
                          have hsortR := sorted_c A11 (L + 1) c11 (es' ++ [⟨A9, rn, c9, ab, (b + 1)⟩]) z
                          unfold SortPost at hsortR
                          rw [HE.out.2.2.1] at hsortR
                          have HSO := Lib.hid hsortR
                          clear hmany hsortR
                          go_wp2_with fail
                          refine (howMany_c A11 (some ⟨gr, or, none⟩) (L + 1) rn c11 rc (es' ++ [⟨A9, rn, c9, ab, (b + 1)⟩]) rs z w14 hzR hrpR hvR (by omega) hrR (by simp) (by omega)).mono ?_
                          rintro e1 w16 ⟨rfl, hb16⟩
                          rw [HM.out]
                          have hzS := hzR.keep hb16
                          have hrpS := hrpR.keep hb16
                          have hbb16 := hbb14.trans (hb16.mono hbb14.size)
                          clear hzR hrpR hrR hb16
                          go_wp2_with fail
                          refine (HSO.out w16 hzS hrpS hvR (by omega)).mono ?_
                          rintro e1 w17 ⟨A17, c17, fs, rfl, hown17, hsort, hb17⟩
                          have hlf : fs.length = L + 1 := by rw [hsort.1.length_eq]; exact HE.out.2.2.1
                          have hrpF : RP w17 A17 (L + 1) fs := ⟨hlf, RC.of_own hown17, fun y hy => ((hrpS.2.2 y (hsort.1.subset hy)).keep hb17)⟩
                          have hsame := samePfs_c A17 A11 (L + 1) c17 c11 fs (es' ++ [⟨A9, rn, c9, ab, (b + 1)⟩]) w17 hrpF (hrpS.keep hb17) (hsort.all hvR) (hsort.same hvR HC3.out.sorted) (by omega)
                          have hbb17 := hbb16.trans (hb17.mono hbb16.size)
                          clear hown17 hsort hb17 hlf hrpF hrpS hbb16
                          go_wp2_with fail
                          refine hsame.mono ?_
                          rintro e1 w18 ⟨rfl, hb18⟩
                          have hbb18 := hbb17.trans (hb18.mono hbb17.size)
                          clear hsame hb18 hbb17
                          go_wp2
                          go_returns
                          exact ⟨rfl, hb0.trans (hbb18.mono hb0.size)⟩
                        · rw [show decide (Lib.beNat bs1 < Lib.beNat rs) = false by simpa using hp2]
                          have hmany : manyIn ((es' ++ [(⟨A9, rn, c9, ab, (b + 1)⟩ : Pf)]).map Pf.is) rs = 1 := by rw [HC3.out.sum rs hrr2.1, if_pos (by omega)]
                          have HM := Lib.hid hmany
                          have hrR := hrr2.keep hbb14
                          have hzR := hzB.keep hbb14
                          have hrpR : RP w14 A11 (L + 1) (es' ++ [⟨A9, rn, c9, ab, (b + 1)⟩]) := RP.of_own (own_below HE.out.2.1 hb1014) HE.out.2.2.1 (HE.out.1.below hb1014)
                          have hvR : ∀ y ∈ es' ++ [(⟨A9, rn, c9, ab, (b + 1)⟩ : Pf)], Vp y.is := fun y hy => by
                            obtain ⟨l1, -, l3⟩ := HC3.out.ln y hy
                            exact ⟨by show isLen y.bs.length; rw [l1]; exact hl, by show y.k ≤ 8 * y.bs.length; rw [l1]; exact l3⟩
                          have hle1 : ((L : Int) + 1 ≤ 16 * rn) := by omega
                          have hsortR := sorted_c A11 (L + 1) c11 (es' ++ [⟨A9, rn, c9, ab, (b + 1)⟩]) z
                          unfold SortPost at hsortR
                          rw [HE.out.2.2.1] at hsortR
                          have HSO := Lib.hid hsortR
                          clear hmany hsortR
                          go_wp2_with fail
                          refine (howMany_c A11 (some ⟨gr, or, none⟩) (L + 1) rn c11 rc (es' ++ [⟨A9, rn, c9, ab, (b + 1)⟩]) rs z w14 hzR hrpR hvR (by omega) hrR (by simp) (by omega)).mono ?_
                          rintro e1 w16 ⟨rfl, hb16⟩
                          rw [HM.out]
                          have hzS := hzR.keep hb16
                          have hrpS := hrpR.keep hb16
                          have hbb16 := hbb14.trans (hb16.mono hbb14.size)
                          clear hzR hrpR hrR hb16
                          go_wp2_with fail
                          refine (HSO.out w16 hzS hrpS hvR (by omega)).mono ?_
                          rintro e1 w17 ⟨A17, c17, fs, rfl, hown17, hsort, hb17⟩
                          have hlf : fs.length = L + 1 := by rw [hsort.1.length_eq]; exact HE.out.2.2.1
                          have hrpF : RP w17 A17 (L + 1) fs := ⟨hlf, RC.of_own hown17, fun y hy => ((hrpS.2.2 y (hsort.1.subset hy)).keep hb17)⟩
                          have hsame := samePfs_c A17 A11 (L + 1) c17 c11 fs (es' ++ [⟨A9, rn, c9, ab, (b + 1)⟩]) w17 hrpF (hrpS.keep hb17) (hsort.all hvR) (hsort.same hvR HC3.out.sorted) (by omega)
                          have hbb17 := hbb16.trans (hb17.mono hbb16.size)
                          clear hown17 hsort hb17 hlf hrpF hrpS hbb16
                          go_wp2_with fail
                          refine hsame.mono ?_
                          rintro e1 w18 ⟨rfl, hb18⟩
                          have hbb18 := hbb17.trans (hb18.mono hbb17.size)
                          clear hsame hb18 hbb17
                          go_wp2
                          go_returns
                          exact ⟨rfl, hb0.trans (hbb18.mono hb0.size)⟩
                    · rw [show decide (wb ab (b + 1) true = bs1) = false by simpa using hq3]
                      have hne : Lib.beNat (wb ab (b + 1) true) ≠ Lib.beNat bs1 := fun h => hq3 (beNat_inj rn _ _ HE.out.2.2.2.2.2.2 HLL.out.2 h)
                      have hmax : Lib.beNat (wb ab (b + 1) true) + 1 < 256 ^ rn := by
                        have h1 := HE.out.2.2.2.2.1
                        have h2 := HE.out.2.2.2.2.2.1
                        omega
                      clear hq3
                      go_wp2_with fail
                      refine (following_c g11 0 rn c11' (wb ab (b + 1) true) w12 hr12 hl hmax).mono ?_
                      rintro e1 w13 ⟨v13, rfl, ⟨g13, c13, rfl, hown13⟩, hb13⟩
                      have hbb13 := hbb12.trans (hb13.mono hbb12.size)
                      have hown13' := own_mono hown13 hbb12.size
                      rw [HE.out.2.2.2.2.1] at hown13'
                      have hb1013 := hb1012.trans (hb13.mono hb1012.size)
                      have hrow13 := own_below HE.out.2.1 hb1013
                      rw [← HE.out.2.2.1] at hrow13
                      have H13 := Lib.hid (And.intro hown13' (And.intro hrow13 (HE.out.1.below hb1013)))
                      have hvle : vv + 2 ^ (8 * rn - (b + 1)) ≤ Lib.beNat bs1 := by
                        have h1 := HE.out.2.2.2.2.1
                        have h2 := HE.out.2.2.2.2.2.1
                        omega
                      have hvge : Lib.beNat as1 ≤ vv + 2 ^ (8 * rn - (b + 1)) := Nat.le_trans hv1 (Nat.le_add_right _ _)
                      have HV := Lib.hid (And.intro hvge hvle)
                      clear hown13 hown13' hrow13 hb13 hbb12 hb1012 hb1013 hr12 hne hmax hvle hvge
                      go_wp2
                      go_roundw
                      case rel => exact ⟨es' ++ [⟨A9, rn, c9, ab, (b + 1)⟩], vv + 2 ^ (8 * rn - (b + 1)), g13, c13, (by rw [HE.out.2.2.1] ; have := H13.out.2.1; rw [HE.out.2.2.1] at this; exact this), H13.out.2.2, rfl, H13.out.1, HV.out.1, HV.out.2, HE.out.2.2.2.1, hbb13⟩
                      case measure => simp only [lenOf]; omega
                  · rw [show decide (Lib.beNat bs1 < Lib.beNat (wb ab b true)) = false by simpa using hq2]
                    have hen2 : vv + 2 ^ (8 * rn - b) ≤ Lib.beNat bs1 + 1 := by have := HDV.out.2; omega
                    have cQ := hbq8.cell
                    have cP := hS8.box.cell
                    have fP := hS8.box.free
                    have lP := hS8.box.lt
                    have lQ := hbq8.lt
                    have hS9 := hS8.store b
                    have hb9 := ((hbb8.setCell (p := ⟨gP, 0, none⟩) hS8.le (.slice A9 rn c9)).setCell (p := ⟨gP, 1, none⟩) hS8.le (.string ⟨#[]⟩)).setCell (p := ⟨gP, 2, none⟩) hS8.le (.int .i64 b)
                    have HNAT := Lib.hid hS9.nat
                    have G1 := Lib.hid hS9
                    have G2 := Lib.hid hb9
                    clear hS9 hb9 hS8 hbq8 hbb8 hq2
                    go_wp2_with fail
                    go_roundw
                    case rel => exact ⟨b, by omega, G1.out, HDV.out.1, hen2, G2.out⟩
                    case measure => rw [HNAT.out, HNR.out]; omega
                · rw [show decide (wb ab b false = ab) = false by simpa using hq1]
                  have hG : Great rn (Lib.beNat bs1) vv (b + 1) := ⟨hb, HAL.out.1, HAL.out.2, .inr (.inl (by rw [show 8 * rn - (b + 1) + 1 = 8 * rn - b by omega]; intro h; exact hq1 (first_eq.2 (by rw [HAB.out.1, HAB.out.2.1]; exact h))))⟩
                  have HG := Lib.hid hG
                  clear hG hq1
                  have hS := hS6
                  have hbX := hbb6
                  have hrow : w6.ownsRow wb1.heap.size 29 3 (.slice A7 L c7) L (pfCells es') := by have := hS.row; rw [← HL.out] at this; exact this
                  have cP := hS.box.cell
                  have hsz := hbX.size
                  have HSX := Lib.hid hS
                  have HROW := Lib.hid hrow
                  clear hS hrow
                  go_wp2_with ((at_builtin; refine append1 rfl _ _ 23 rfl (wb1.heap.size) 29 i0 (.agg #[.slice none 0 0, .string ⟨#[]⟩, .int .i64 0]) 3 48 Tryd.underlying23 hi hz0 hz1 hz2 rfl (by decide) _ _ _ rfl (HROW.out) _ _ [.slice A9 rn c9, .string ⟨#[]⟩, .int .i64 ((b : Int) + 1)] rfl (by simp) rfl rfl (by unfold maxLen; omega) (by omega) (by first | omega | (simp; omega)) ?_))
                  intro v10 w10 hown10 hgrow
                  have hxz : Below w6.heap.size w6 (w6.alloc (.cells #[.slice A9 rn c9, .string ⟨#[]⟩, .int .i64 ((b : Int) + 1)] 29)) := (Below.refl _ _).alloc (Nat.le_refl _) _
                  have hb10 : Below wb1.heap.size wb1 w10 := (hbX.trans (hxz.mono hbX.size)).grown hgrow (Nat.le_trans hbX.size hxz.size) (own_row_ge HROW.out)
                  have hSx := HSX.out.keep hxz
                  have hrowx := own_below HROW.out hxz
                  have hbx10 := hSx.box.grown hgrow (fun e => hSx.ne e.symm)
                  have hpl10 := hSx.pl.kept hgrow (own_ne hSx.pl hrowx (by decide))
                  have hes10 : ownPf w10 wb1.heap.size (es' ++ [⟨A9, rn, c9, ab, (b + 1)⟩]) := fun y hy => by
                    rcases List.mem_append.1 hy with hy | hy
                    · exact (hSx.own.grown hrowx (by decide) hgrow) y hy
                    · simp at hy; subst hy; exact hpl10
                  have hrow10 : w10.ownsRow wb1.heap.size 29 3 v10 (L + 1) (pfCells (es' ++ [(⟨A9, rn, c9, ab, (b + 1)⟩ : Pf)])) := by rw [pfCells_append]; exact hown10
                  have hlen2 : (es' ++ [(⟨A9, rn, c9, ab, (b + 1)⟩ : Pf)]).length = L + 1 := by rw [List.length_append, ← HL.out]; rfl
                  have hC2 := HAB.out.2.2.1.step hl hv1 hv2 (by rw [Nat.pow_mul]; exact hTl) HG.out ⟨A9, rn, c9, ab, (b + 1)⟩ HAB.out.1 rfl rfl HAB.out.2.1
                  have hlast := last_eq (bs := ab) (b := (b + 1)) (by rw [HAB.out.1, HAB.out.2.1]; exact HG.out.al)
                  rw [HAB.out.1, HAB.out.2.1] at hlast
                  have hbk := HG.out.le
                  have hen3 := HG.out.en
                  have hwl : (wb ab (b + 1) true).length = rn := by rw [wb_len, HAB.out.1]
                  obtain ⟨A11, c11, rfl⟩ := own_slice hrow10
                  have cP10 := hbx10.cell
                  have hrp10 := RB.of_own hpl10
                  have HE := Lib.hid (And.intro hes10 (And.intro hrow10 (And.intro hlen2 (And.intro hC2 (And.intro hlast (And.intro hen3 hwl))))))
                  clear hSx hrowx hbx10 hpl10 hes10 hrow10 hlen2 hC2 hlast hen3 hwl hown10 hgrow hxz HSX HROW hbX hsz
                  clear cP
                  go_wp2_with fail
                  refine (lastOf_c A9 rn c9 ab (b + 1) w10 hrp10 hl hbk).mono ?_
                  rintro e1 w11 ⟨v11, rfl, ⟨g11, c11', rfl, hown11⟩, hb11⟩
                  have hr11 := RB.of_own hown11
                  have hbb11 := hb10.trans (hb11.mono hb10.size)
                  have hrT11 := hrb2.keep hbb11
                  clear cP10 hown11 hrp10
                  go_wp2_with fail
                  refine (equal_c (some ⟨g11, 0, none⟩) (some ⟨gb, ob, none⟩) rn rn c11' d (wb ab (b + 1) true) bs1 w11 hr11 hrT11 (by omega)).mono ?_
                  rintro e1 w12 ⟨rfl, hb12⟩
                  have hbb12 := hbb11.trans (hb12.mono hbb11.size)
                  have hb1012 := hb11.trans (hb12.mono hb11.size)
                  have hr12 := hr11.keep hb12
                  clear hr11 hrT11 hbb11 hb11 hb12
                  by_cases hq3 : wb ab (b + 1) true = bs1
                  · rw [show decide (wb ab (b + 1) true = bs1) = true by simpa using hq3]
                    have hvT : vv + 2 ^ (8 * rn - (b + 1)) = Lib.beNat bs1 + 1 := by rw [← HE.out.2.2.2.2.1, hq3]
                    have hC3 := HE.out.2.2.2.1
                    rw [hvT] at hC3
                    have HC3 := Lib.hid hC3
                    have hrF12 := hra2.keep hbb12
                    have hrR12 := hrr2.keep hbb12
                    clear hq3 hvT hC3
                    go_wp2_with fail
                    refine (less_c (some ⟨gr, or, none⟩) (some ⟨ga, oa, none⟩) rn rc c rs as1 w12 hrR12 hrF12 (by omega)).mono ?_
                    rintro e1 w13 ⟨rfl, hb13⟩
                    have hbb13 := hbb12.trans (hb13.mono hbb12.size)
                    have hb1013 := hb1012.trans (hb13.mono hb1012.size)
                    clear hr12 hrF12 hrR12 hb13 hb1012 hbb12
                    by_cases hp1 : Lib.beNat rs < Lib.beNat as1
                    · rw [show decide (Lib.beNat rs < Lib.beNat as1) = true by simpa using hp1]
                      have hmany : manyIn ((es' ++ [(⟨A9, rn, c9, ab, (b + 1)⟩ : Pf)]).map Pf.is) rs = 0 := by rw [HC3.out.sum rs hrr2.1, if_neg (by omega)]
                      have HM := Lib.hid hmany
                      have hrR := hrr2.keep hbb13
                      have hzR := hzB.keep hbb13
                      have hrpR : RP w13 A11 (L + 1) (es' ++ [⟨A9, rn, c9, ab, (b + 1)⟩]) := RP.of_own (own_below HE.out.2.1 hb1013) HE.out.2.2.1 (HE.out.1.below hb1013)
                      have hvR : ∀ y ∈ es' ++ [(⟨A9, rn, c9, ab, (b + 1)⟩ : Pf)], Vp y.is := fun y hy => by
                        obtain ⟨l1, -, l3⟩ := HC3.out.ln y hy
                        exact ⟨by show isLen y.bs.length; rw [l1]; exact hl, by show y.k ≤ 8 * y.bs.length; rw [l1]; exact l3⟩
                      have hle1 : ((L : Int) + 1 ≤ 16 * rn) := by omega
                      have hsortR := sorted_c A11 (L + 1) c11 (es' ++ [⟨A9, rn, c9, ab, (b + 1)⟩]) z
                      unfold SortPost at hsortR
                      rw [HE.out.2.2.1] at hsortR
                      have HSO := Lib.hid hsortR
                      clear hmany hsortR
                      go_wp2_with fail
                      refine (howMany_c A11 (some ⟨gr, or, none⟩) (L + 1) rn c11 rc (es' ++ [⟨A9, rn, c9, ab, (b + 1)⟩]) rs z w13 hzR hrpR hvR (by omega) hrR (by simp) (by omega)).mono ?_
                      rintro e1 w16 ⟨rfl, hb16⟩
                      rw [HM.out]
                      have hzS := hzR.keep hb16
                      have hrpS := hrpR.keep hb16
                      have hbb16 := hbb13.trans (hb16.mono hbb13.size)
                      clear hzR hrpR hrR hb16
                      go_wp2_with fail
                      refine (HSO.out w16 hzS hrpS hvR (by omega)).mono ?_
                      rintro e1 w17 ⟨A17, c17, fs, rfl, hown17, hsort, hb17⟩
                      have hlf : fs.length = L + 1 := by rw [hsort.1.length_eq]; exact HE.out.2.2.1
                      have hrpF : RP w17 A17 (L + 1) fs := ⟨hlf, RC.of_own hown17, fun y hy => ((hrpS.2.2 y (hsort.1.subset hy)).keep hb17)⟩
                      have hsame := samePfs_c A17 A11 (L + 1) c17 c11 fs (es' ++ [⟨A9, rn, c9, ab, (b + 1)⟩]) w17 hrpF (hrpS.keep hb17) (hsort.all hvR) (hsort.same hvR HC3.out.sorted) (by omega)
                      have hbb17 := hbb16.trans (hb17.mono hbb16.size)
                      clear hown17 hsort hb17 hlf hrpF hrpS hbb16
                      go_wp2_with fail
                      refine hsame.mono ?_
                      rintro e1 w18 ⟨rfl, hb18⟩
                      have hbb18 := hbb17.trans (hb18.mono hbb17.size)
                      clear hsame hb18 hbb17
                      go_wp2
                      go_returns
                      exact ⟨rfl, hb0.trans (hbb18.mono hb0.size)⟩
                    · rw [show decide (Lib.beNat rs < Lib.beNat as1) = false by simpa using hp1]
                      have hrT13 := hrb2.keep hbb13
                      have hrR13 := hrr2.keep hbb13
                      go_wp2_with fail
                      refine (less_c (some ⟨gb, ob, none⟩) (some ⟨gr, or, none⟩) rn d rc bs1 rs w13 hrT13 hrR13 (by omega)).mono ?_
                      rintro e1 w14 ⟨rfl, hb14⟩
                      have hbb14 := hbb13.trans (hb14.mono hbb13.size)
                      have hb1014 := hb1013.trans (hb14.mono hb1013.size)
                      clear hrT13 hrR13 hb14 hb1013 hbb13
                      by_cases hp2 : Lib.beNat bs1 < Lib.beNat rs
                      · rw [show decide (Lib.beNat bs1 < Lib.beNat rs) = true by simpa using hp2]
                        have hmany : manyIn ((es' ++ [(⟨A9, rn, c9, ab, (b + 1)⟩ : Pf)]).map Pf.is) rs = 0 := by rw [HC3.out.sum rs hrr2.1, if_neg (by omega)]
                        have HM := Lib.hid hmany
                        have hrR := hrr2.keep hbb14
                        have hzR := hzB.keep hbb14
                        have hrpR : RP w14 A11 (L + 1) (es' ++ [⟨A9, rn, c9, ab, (b + 1)⟩]) := RP.of_own (own_below HE.out.2.1 hb1014) HE.out.2.2.1 (HE.out.1.below hb1014)
                        have hvR : ∀ y ∈ es' ++ [(⟨A9, rn, c9, ab, (b + 1)⟩ : Pf)], Vp y.is := fun y hy => by
                          obtain ⟨l1, -, l3⟩ := HC3.out.ln y hy
                          exact ⟨by show isLen y.bs.length; rw [l1]; exact hl, by show y.k ≤ 8 * y.bs.length; rw [l1]; exact l3⟩
                        have hle1 : ((L : Int) + 1 ≤ 16 * rn) := by omega
                        have hsortR := sorted_c A11 (L + 1) c11 (es' ++ [⟨A9, rn, c9, ab, (b + 1)⟩]) z
                        unfold SortPost at hsortR
                        rw [HE.out.2.2.1] at hsortR
                        have HSO := Lib.hid hsortR
                        clear hmany hsortR
                        go_wp2_with fail
                        refine (howMany_c A11 (some ⟨gr, or, none⟩) (L + 1) rn c11 rc (es' ++ [⟨A9, rn, c9, ab, (b + 1)⟩]) rs z w14 hzR hrpR hvR (by omega) hrR (by simp) (by omega)).mono ?_
                        rintro e1 w16 ⟨rfl, hb16⟩
                        rw [HM.out]
                        have hzS := hzR.keep hb16
                        have hrpS := hrpR.keep hb16
                        have hbb16 := hbb14.trans (hb16.mono hbb14.size)
                        clear hzR hrpR hrR hb16
                        go_wp2_with fail
                        refine (HSO.out w16 hzS hrpS hvR (by omega)).mono ?_
                        rintro e1 w17 ⟨A17, c17, fs, rfl, hown17, hsort, hb17⟩
                        have hlf : fs.length = L + 1 := by rw [hsort.1.length_eq]; exact HE.out.2.2.1
                        have hrpF : RP w17 A17 (L + 1) fs := ⟨hlf, RC.of_own hown17, fun y hy => ((hrpS.2.2 y (hsort.1.subset hy)).keep hb17)⟩
                        have hsame := samePfs_c A17 A11 (L + 1) c17 c11 fs (es' ++ [⟨A9, rn, c9, ab, (b + 1)⟩]) w17 hrpF (hrpS.keep hb17) (hsort.all hvR) (hsort.same hvR HC3.out.sorted) (by omega)
                        have hbb17 := hbb16.trans (hb17.mono hbb16.size)
                        clear hown17 hsort hb17 hlf hrpF hrpS hbb16
                        go_wp2_with fail
                        refine hsame.mono ?_
                        rintro e1 w18 ⟨rfl, hb18⟩
                        have hbb18 := hbb17.trans (hb18.mono hbb17.size)
                        clear hsame hb18 hbb17
                        go_wp2
                        go_returns
                        exact ⟨rfl, hb0.trans (hbb18.mono hb0.size)⟩
                      · rw [show decide (Lib.beNat bs1 < Lib.beNat rs) = false by simpa using hp2]
                        have hmany : manyIn ((es' ++ [(⟨A9, rn, c9, ab, (b + 1)⟩ : Pf)]).map Pf.is) rs = 1 := by rw [HC3.out.sum rs hrr2.1, if_pos (by omega)]
                        have HM := Lib.hid hmany
                        have hrR := hrr2.keep hbb14
                        have hzR := hzB.keep hbb14
                        have hrpR : RP w14 A11 (L + 1) (es' ++ [⟨A9, rn, c9, ab, (b + 1)⟩]) := RP.of_own (own_below HE.out.2.1 hb1014) HE.out.2.2.1 (HE.out.1.below hb1014)
                        have hvR : ∀ y ∈ es' ++ [(⟨A9, rn, c9, ab, (b + 1)⟩ : Pf)], Vp y.is := fun y hy => by
                          obtain ⟨l1, -, l3⟩ := HC3.out.ln y hy
                          exact ⟨by show isLen y.bs.length; rw [l1]; exact hl, by show y.k ≤ 8 * y.bs.length; rw [l1]; exact l3⟩
                        have hle1 : ((L : Int) + 1 ≤ 16 * rn) := by omega
                        have hsortR := sorted_c A11 (L + 1) c11 (es' ++ [⟨A9, rn, c9, ab, (b + 1)⟩]) z
                        unfold SortPost at hsortR
                        rw [HE.out.2.2.1] at hsortR
                        have HSO := Lib.hid hsortR
                        clear hmany hsortR
                        go_wp2_with fail
                        refine (howMany_c A11 (some ⟨gr, or, none⟩) (L + 1) rn c11 rc (es' ++ [⟨A9, rn, c9, ab, (b + 1)⟩]) rs z w14 hzR hrpR hvR (by omega) hrR (by simp) (by omega)).mono ?_
                        rintro e1 w16 ⟨rfl, hb16⟩
                        rw [HM.out]
                        have hzS := hzR.keep hb16
                        have hrpS := hrpR.keep hb16
                        have hbb16 := hbb14.trans (hb16.mono hbb14.size)
                        clear hzR hrpR hrR hb16
                        go_wp2_with fail
                        refine (HSO.out w16 hzS hrpS hvR (by omega)).mono ?_
                        rintro e1 w17 ⟨A17, c17, fs, rfl, hown17, hsort, hb17⟩
                        have hlf : fs.length = L + 1 := by rw [hsort.1.length_eq]; exact HE.out.2.2.1
                        have hrpF : RP w17 A17 (L + 1) fs := ⟨hlf, RC.of_own hown17, fun y hy => ((hrpS.2.2 y (hsort.1.subset hy)).keep hb17)⟩
                        have hsame := samePfs_c A17 A11 (L + 1) c17 c11 fs (es' ++ [⟨A9, rn, c9, ab, (b + 1)⟩]) w17 hrpF (hrpS.keep hb17) (hsort.all hvR) (hsort.same hvR HC3.out.sorted) (by omega)
                        have hbb17 := hbb16.trans (hb17.mono hbb16.size)
                        clear hown17 hsort hb17 hlf hrpF hrpS hbb16
                        go_wp2_with fail
                        refine hsame.mono ?_
                        rintro e1 w18 ⟨rfl, hb18⟩
                        have hbb18 := hbb17.trans (hb18.mono hbb17.size)
                        clear hsame hb18 hbb17
                        go_wp2
                        go_returns
                        exact ⟨rfl, hb0.trans (hbb18.mono hb0.size)⟩
                  · rw [show decide (wb ab (b + 1) true = bs1) = false by simpa using hq3]
                    have hne : Lib.beNat (wb ab (b + 1) true) ≠ Lib.beNat bs1 := fun h => hq3 (beNat_inj rn _ _ HE.out.2.2.2.2.2.2 HLL.out.2 h)
                    have hmax : Lib.beNat (wb ab (b + 1) true) + 1 < 256 ^ rn := by
                      have h1 := HE.out.2.2.2.2.1
                      have h2 := HE.out.2.2.2.2.2.1
                      omega
                    clear hq3
                    go_wp2_with fail
                    refine (following_c g11 0 rn c11' (wb ab (b + 1) true) w12 hr12 hl hmax).mono ?_
                    rintro e1 w13 ⟨v13, rfl, ⟨g13, c13, rfl, hown13⟩, hb13⟩
                    have hbb13 := hbb12.trans (hb13.mono hbb12.size)
                    have hown13' := own_mono hown13 hbb12.size
                    rw [HE.out.2.2.2.2.1] at hown13'
                    have hb1013 := hb1012.trans (hb13.mono hb1012.size)
                    have hrow13 := own_below HE.out.2.1 hb1013
                    rw [← HE.out.2.2.1] at hrow13
                    have H13 := Lib.hid (And.intro hown13' (And.intro hrow13 (HE.out.1.below hb1013)))
                    have hvle : vv + 2 ^ (8 * rn - (b + 1)) ≤ Lib.beNat bs1 := by
                      have h1 := HE.out.2.2.2.2.1
                      have h2 := HE.out.2.2.2.2.2.1
                      omega
                    have hvge : Lib.beNat as1 ≤ vv + 2 ^ (8 * rn - (b + 1)) := Nat.le_trans hv1 (Nat.le_add_right _ _)
                    have HV := Lib.hid (And.intro hvge hvle)
                    clear hown13 hown13' hrow13 hb13 hbb12 hb1012 hb1013 hr12 hne hmax hvle hvge
                    go_wp2
                    go_roundw
                    case rel => exact ⟨es' ++ [⟨A9, rn, c9, ab, (b + 1)⟩], vv + 2 ^ (8 * rn - (b + 1)), g13, c13, (by rw [HE.out.2.2.1] ; have := H13.out.2.1; rw [HE.out.2.2.1] at this; exact this), H13.out.2.2, rfl, H13.out.1, HV.out.1, HV.out.2, HE.out.2.2.2.1, hbb13⟩
                    case measure => simp only [lenOf]; omega
      · have q1 : ((rn : Int) != m) = true := by simp; omega
        have q2 : (rn != m) = true := by simpa using hr
        go_wp2_with fail
        go_returns
        exact ⟨rfl, hba⟩
    · have q1 : ((m : Int) != n) = true := by simp; omega
      have q2 : (m != n) = true := by simpa using hm
      go_wp2_with fail
      go_returns
      exact ⟨rfl, hba⟩
  · rw [show (n == 4 || n == 16) = false by simpa using hla]
    go_wp2_with fail
    go_returns
    exact ⟨rfl, hba⟩
end Go.Proofs.YtckfgdohpmllmaaDoor
