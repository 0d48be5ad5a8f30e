/-
  The walk of laws.FnGateZerosAhead.
-/
import Derived.Test.YtaofindlomkbbaaDoorGSame
namespace Go.Proofs.YtaofindlomkbbaaDoor
open Go Go.RowKit
theorem numA_zeros (m : Nat) (D : List UInt8) : numA 0 (List.replicate m 48 ++ D) = numA 0 D := by
  induction m with
  | zero => rfl
  | succ m ih => exact ih
theorem digs_zeros {D : List UInt8} (h : Digs D) (m : Nat) : Digs (List.replicate m 48 ++ D) := fun c hc => by
  rcases List.mem_append.1 hc with hc | hc
  · obtain rfl := (List.mem_replicate.1 hc).2
    decide
  · exact h c hc
/-- The text with zeros ahead of the port. -/
theorem zero_text {S : ByteArray} {bs : List UInt8} {u a m : Nat} (hS : S.data.toList = gT bs u) (ha : a = (gA bs).length) :
    S.extract 0 (a + 1) ++ ba (List.replicate m 48) ++ S.extract (a + 1) S.size = ba (gA bs ++ 58 :: (List.replicate m 48 ++ Lib.decDigits u)) := by
  have h1 : (S.extract 0 (a + 1)).data.toList = gA bs ++ [58] := by
    have : S.data.toList = (gA bs ++ [58]) ++ Lib.decDigits u := by rw [hS, gT_gA]; simp
    have h2 := pre_list this
    rw [ha, show (gA bs).length + 1 = (gA bs ++ [58]).length by simp]
    exact h2
  have h2 : (S.extract (a + 1) S.size).data.toList = Lib.decDigits u := by
    rw [ha]; exact suf_list2 (by rw [hS, gT_gA])
  refine ba_of ?_
  rw [ByteArray.data_append, Array.toList_append, ByteArray.data_append, Array.toList_append, h1, h2, ba_list]
  simp
theorem zero_step (t : Nat) : ba (List.replicate t 48) ++ ⟨#[48]⟩ = ba (List.replicate (t + 1) 48) := by
  refine ba_of ?_
  rw [ByteArray.data_append, Array.toList_append, ba_list, List.replicate_succ']
theorem zero_reads (bs : List UInt8) (u m : Nat) (hl : isLen bs.length) (hu : u < 65536) (hm : m < 1024) (z : ZP) (w0 : World) (hz : Zs w0 z) :
    GReads z w0 (ba (gA bs ++ 58 :: (List.replicate m 48 ++ Lib.decDigits u))) (some (bs, u)) := by
  have h := gt_reads bs (List.replicate m 48 ++ Lib.decDigits u) hl (by intro h; have := congrArg List.length h; have hp := List.length_pos_iff.2 (dd_ne u); rw [List.length_append, List.length_nil] at this; omega)
    (digs_zeros (dd_digs u) m) (by rw [numA_zeros, dd_num]; exact hu) (by rw [List.length_append, List.length_replicate]; have := dd_len hu; omega) z w0 hz
  rw [numA_zeros, dd_num] at h
  exact h
/-- What ParsePortEach hands back, as a new value of a region. -/
def EachT (n : Nat) (os : List GOut) (v : Value) (w : World) : Prop := ∃ A c A2 c2 es, v = .tuple #[.slice A n c, .slice A2 n c2] ∧ RG w A n es ∧ RO w A2 n os ∧ es.map Gt.is = os.map GOut.is
theorem EachT.keep {n : Nat} {os : List GOut} {v : Value} {w w' : World} (h : EachT n os v w) (hb : Below w.heap.size w w') : EachT n os v w' := by
  obtain ⟨A, c, A2, c2, es, h1, h2, h3, h4⟩ := h
  exact ⟨A, c, A2, c2, es, h1, h2.keep hb, h3.keep hb, h4⟩
theorem EachT.out {n c c2 : Nat} {A A2 : Option Addr} {os : List GOut} {w : World} (h : EachT n os (.tuple #[.slice A n c, .slice A2 n c2]) w) : ∃ es, RG w A n es ∧ RO w A2 n os ∧ es.map Gt.is = os.map GOut.is := by
  obtain ⟨A', c', A2', c2', es, h1, h2, h3, h4⟩ := h
  injection h1 with h1
  simp only [Array.mk.injEq, List.cons.injEq, Value.slice.injEq, and_true, true_and] at h1
  obtain ⟨⟨rfl, -⟩, rfl, -⟩ := h1
  exact ⟨es, h2, h3, h4⟩
theorem portEach_t (A : Option Addr) (n c : Nat) (ts : List ByteArray) (os : List GOut) (z : ZP) (w : World) (hz : Zs w z) (ht : RT w A n ts) (ho : os.length = n) (hr : ∀ (i : Nat) t o, ts[i]? = some t → os[i]? = some o → GReads z w t o) (hn : n ≤ 1099511627776) :
    Calls Tryd.prog 11 #[.slice A n c] w fun e w' => ∃ v, e = .returned v ∧ EachT n os v w' ∧ Below w.heap.size w w' := by
  refine (portEach_c A n c ts os z w hz ht ho hr hn).mono ?_
  rintro e w' ⟨A1, c1, es, A2, c2, rfl, hown, hok, hmap, hin, hb⟩
  have hel : es.length = n := by have := congrArg List.length hmap; rw [List.length_map, List.length_map] at this; omega
  rw [hel] at hown
  rw [ho] at hok
  refine ⟨_, rfl, ⟨A1, c1, A2, c2, es, ?_, RG.of_ownT hown hel hin, ⟨ho, RC.of_own hok⟩, hmap⟩, hb⟩
  rw [hel, ho]
theorem portEach_1 (g : Nat) (T : ByteArray) (o : GOut) (z : ZP) (w : World) (hz : Zs w z) {B : Nat} (ht : w.ownsRow B 9 1 (.slice (some ⟨g, 0, none⟩) 1 1) 1 [.string T]) (hr : GReads z w T o) :
    Calls Tryd.prog 11 #[.slice (some ⟨g, 0, none⟩) 1 1] w fun e w' => ∃ v, e = .returned v ∧ EachT 1 [o] v w' ∧ Below w.heap.size w w' := by
  refine portEach_t (some ⟨g, 0, none⟩) 1 1 [T] [o] z w hz ⟨rfl, RC.of_own ht⟩ rfl (fun i t o' h1 h2 => ?_) (by omega)
  cases i with
  | zero =>
    simp only [List.getElem?_cons_zero, Option.some.injEq] at h1 h2
    subst h1
    subst h2
    exact hr
  | succ i => simp at h1
set_option maxRecDepth 100000 in
set_option maxHeartbeats 32000000 in
theorem gateZero_walk (A : Option Addr) (n c : Nat) (bs : List UInt8) (N K : Int) (z : ZP) (w : World) (hz : Zs w z) (hpw : PW w) (hr : RB w A n bs) (hR : A = none → n = 0 ∧ c = 0) (hn : n ≤ 140737488355328) :
    Calls Tryd.prog 6 #[.slice A n c, .int .i64 N, .int .i64 K] w fun e w' => e = .returned (.bool true) ∧ Below w.heap.size w w' := by
  have hbl := hr.1
  have hpx := portN_and N
  have hp2 := portN_lt N
  have hp3 := wrap_u16 _ hp2
  generalize portN N = u at *
  go_enter Tryd.func6, Tryd.ntmps6
  go_wp2_with fail
  refine (isAddress_c A n c w).mono ?_
  rintro e w0 ⟨rfl, hb0⟩
  by_cases hl : (n == 4 || n == 16) = true
  · rw [hl]
    have hlen : isLen bs.length := by rw [hbl]; simpa [isLen] using hl
    go_wp2_with fail
    refine (plain_c A n c bs w0 (hr.keep hb0) hR hn).mono ?_
    rintro e w1 ⟨A1, c1, rfl, hown1, hb1'⟩
    have hb1 := hb0.trans (hb1'.mono hb0.size)
    have hr1 := RB.of_own hown1
    clear hown1 hb1' hb0
    go_wp2_with fail
    have hX := boxes1 (x0 := #[.slice A1 n c1, .string ⟨#[]⟩, .int .u16 u]) w1 30
    have hb1x := hb1.trans (hX.below.mono hb1.size)
    refine (gateText_c A1 n c1 bs u z _ (hz.keep hb1x) (hr1.keep hX.below) hlen hp2 (hpw.keep hb1x)).mono ?_
    rintro e w2 ⟨rfl, hb2'⟩
    have hX2 := hX.keep hb2'
    obtain ⟨S, hS⟩ : ∃ S : ByteArray, S = ba (gT bs u) := ⟨_, rfl⟩
    rw [show (⟨(gT bs u).toArray⟩ : ByteArray) = S from hS.symm]
    have hSl : S.data.toList = gT bs u := by rw [hS]; rfl
    obtain ⟨a, ha⟩ : ∃ a, a = (gA bs).length := ⟨_, rfl⟩
    have hdp : 0 < (Lib.decDigits u).length := List.length_pos_iff.2 (dd_ne u)
    have hdl := dd_len hp2
    have hSs : S.size = a + 1 + (Lib.decDigits u).length := by rw [← str_len, hSl, gT_gA, ha, List.length_append, List.length_cons]; omega
    have hal : a ≤ 84 := by
      have := adT_le hlen
      have h2 := gA_len (bs := bs)
      rw [ha]; split at h2 <;> omega
    have hlx : lix S.data.toList 58 S.size = a := by
      rw [← str_len, hSl, gT_gA, ha]; exact lix_all (digs_no58 (dd_digs u))
    have HLX := Lib.hid hlx
    have HS := Lib.hid (And.intro hSl (And.intro ha (And.intro hSs hlen)))
    have hS1 : a + 1 < S.size := by omega
    have hS2 : S.size ≤ 90 := by omega
    have HX := Lib.hid hX2
    clear hlx hSl ha hSs hS hdp hdl hb2' hX hX2 hb1x
    go_wp2_with fail
    refine (lastColon_c S w2 (by omega)).mono ?_
    rintro e w3 ⟨rfl, rfl⟩
    rw [HLX.out]
    go_wp2_with fail
    refine (steps_c K w3).mono ?_
    rintro e w4 ⟨rfl, hb4⟩
    have hX4 := HX.out.keep hb4
    have HX4 := Lib.hid hX4
    have hm := stepsN_lt K
    generalize stepsN K = m at *
    clear hX4 HX hb4
    go_wp2_with fail
    go_loopw [10, 28] (fun v i wr => ∃ t : Nat, i = .int .i64 t ∧ t ≤ m ∧ v = .string (ba (List.replicate t 48)) ∧ Hid (Boxes w1 [#[.slice A1 n c1, .string ⟨#[]⟩, .int .u16 u]] wr)) (fun _ i _ => m - (intOf i).toNat)
    case atStart => exact ⟨0, rfl, Nat.zero_le _, rfl, HX4⟩
    case round =>
      obtain ⟨t, rfl, ht, rfl, hXr⟩ := hrel
      by_cases htl : t < m
      · have hsz : (ba (List.replicate t 48)).size = t := by rw [ba_size, List.length_replicate]
        have HST := Lib.hid (zero_step t)
        go_wp2
        go_roundw
        case rel => exact ⟨t + 1, by go_num, by omega, by rw [HST.out], hXr⟩
        case measure => simp [intOf]; omega
      · obtain rfl : t = m := by omega
        have hsz1 : (S.extract 0 (a + 1)).size = a + 1 := by rw [ByteArray.size_extract]; omega
        have hsz2 : (S.extract (a + 1) S.size).size = S.size - (a + 1) := by rw [ByteArray.size_extract]; omega
        have hszm : (ba (List.replicate t 48)).size = t := by rw [ba_size, List.length_replicate]
        have HT := Lib.hid (zero_text (m := t) HS.out.1 HS.out.2.1)
        have HRD := Lib.hid (zero_reads bs u t hlen hp2 hm z)
        have hbr := hb1.trans (hXr.out.below.mono hb1.size)
        have HBR := Lib.hid (And.intro hbr (And.intro hXr.out (hr1.keep hXr.out.below)))
        have hdr : Below wr.heap.size wr wr.drew := ⟨rfl, rfl, rfl, Nat.le_refl _, fun _ _ => rfl⟩
        have hwrap : IntKind.i64.wrap ((a : Int) + 1) = (a : Int) + 1 := by rw [IntKind.wrap_i64]; omega
        have q1 : (a : Int) + 1 ≤ (S.size : Int) := by omega
        have q0 : (0 : Int) ≤ (a : Int) + 1 := by omega
        have s1 : ¬ 9223372036854775807 < a + 1 + t := by omega
        have s2 : ¬ 9223372036854775807 < a + 1 + t + (S.size - (a + 1)) := by omega
        clear hbr hXr
        go_wp2_with fail
        refine region_pick (Below wr.heap.size wr) [(0, false, none), (1, false, none), (2, false, none), (3, false, none), (4, false, none), (5, false, none), (6, false, none), (7, false, none), (8, false, none), (9, false, none), (10, false, none), (11, true, none), (12, true, none), (13, false, none), (14, false, none), (15, false, none), (16, false, none), (17, false, none)] 18 (by kernel_rfl) (by kernel_rfl) (fun w w' h hb => h.trans (hb.mono h.size)) (hdr) ?_
        simp only [pickOps, List.getElem?_cons_zero, List.getElem?_cons_succ]
        repeat (first | (refine t_skip rfl ?_; (simp only [Act.put, List.setIfInBounds_toArray, List.set_cons_zero, List.set_cons_succ])) | (refine t_run ?_ rfl (fun w1 hw1 => ?_) ?_; rotate_left; (have r0 := hwrap; have r1 := q0; have r2 := q1; have r3 := hsz1; have r4 := hsz2; have r5 := hszm; have r6 := s1; have r7 := s2; go_simp; try (with_reducible rfl)); (simp only [Act.put, List.setIfInBounds_toArray, List.set_cons_zero, List.set_cons_succ])))
        rw [HT.out]
        clear HT
        generalize ba (gA bs ++ 58 :: (List.replicate t 48 ++ Lib.decDigits u)) = T at HRD ⊢
        refine t_new (fun v w' => LitRow 0 9 1 1 [.string T] v w') (by rfl) (fun v w w' h hb => h.keep hb) (fun w1 hw1 => ?_) ?_
        refine ⟨?_, ?_, ?_, ?_, ?_⟩
        rotate_left 2
        (go_simp; first | (refine ⟨?_, ?_⟩ <;> with_reducible rfl) | with_reducible rfl)
        exact ⟨_, rfl, own_lit w1 #[.string T] _ 1 1 _ (Nat.zero_le _) rfl (by omega)⟩
        exact (Below.refl _ _).alloc (Nat.le_refl _) _
        rintro v7 ⟨-, -, g7, rfl, -⟩
        (simp only [Act.put, List.setIfInBounds_toArray, List.set_cons_zero, List.set_cons_succ])
        refine t_fresh ?_ ?_ (fun v w' => EachT 1 [some (bs, u)] v w') (by rfl) (fun w1 hw1 => ?_) (fun v w w' h hb => h.keep hb) (fun w1 hw1 => ?_) ?_
        rotate_left 2
        (go_simp; refine ⟨?_, ?_⟩ <;> with_reducible rfl)
        (go_at_call 11; (with_reducible refine (portEach_1 g7 T (some (bs, u)) z w1 (hz.keep (HBR.out.1.trans (hw1.1.mono HBR.out.1.size))) hw1.2.own (HRD.out w1 (hz.keep (HBR.out.1.trans (hw1.1.mono HBR.out.1.size))))).mono ?_); rintro e w2 ⟨v, rfl, h1, h2⟩; exact ⟨_, rfl, h1, h2⟩)
        rintro v8 ⟨-, -, A8, c8, A9, c9, es8, rfl, -⟩
        (simp only [Act.put, List.setIfInBounds_toArray, List.set_cons_zero, List.set_cons_succ])
        repeat (first | (refine t_skip rfl ?_; (simp only [Act.put, List.setIfInBounds_toArray, List.set_cons_zero, List.set_cons_succ])) | (refine t_run ?_ rfl (fun w1 hw1 => ?_) ?_; rotate_left; (go_simp; try (with_reducible rfl)); (simp only [Act.put, List.setIfInBounds_toArray, List.set_cons_zero, List.set_cons_succ])))
        intro w8 ⟨⟨hb8, _⟩, hE8⟩
        simp only [List.drop_succ_cons, List.drop_zero]
        obtain ⟨es, hrg, hro, hmap⟩ := hE8.out
        have hen : ∀ e ∈ es, e.n ≤ 9223372036854775807 := fun e he => by
          have h1 := (hrg.2.2 e he).1
          have h2 : e.is ∈ es.map Gt.is := List.mem_map_of_mem he
          rw [hmap] at h2
          have h3 : e.bs = bs := congrArg Prod.fst (List.mem_singleton.1 h2)
          rw [h3] at h1
          omega
        have hX8 := HBR.out.2.1.keep hb8
        have b0 := hX8.b0
        have H8 := Lib.hid (And.intro (HBR.out.1.trans (hb8.mono HBR.out.1.size)) (And.intro hrg (And.intro hro (And.intro hmap (And.intro hen (HBR.out.2.2.keep hb8))))))
        have hxa : Below w8.heap.size w8 (w8.alloc (.cells #[.slice A1 n c1, .string ⟨#[]⟩, .int .u16 u] 30)) := (Below.refl _ _).alloc (Nat.le_refl _) _
        have hfs : RG (w8.alloc (.cells #[.slice A1 n c1, .string ⟨#[]⟩, .int .u16 u] 30)) (some ⟨w8.heap.size, 0, none⟩) 1 [⟨A1, n, c1, bs, u⟩] :=
          ⟨rfl, RC.of_own (own_lit w8 #[.slice A1 n c1, .string ⟨#[]⟩, .int .u16 u] _ 3 1 0 (Nat.zero_le _) rfl (by omega)), fun e he => by
            rw [List.mem_singleton.1 he]; exact H8.out.2.2.2.2.2.keep hxa⟩
        have HF := Lib.hid (And.intro hfs hxa)
        clear hX8 hrg hro hmap hen hb8 hE8 hfs hxa HRD HBR
        go_wp2_with fail
        refine (sameGates_c A8 (some ⟨w8.heap.size, 0, none⟩) 1 c8 1 es [⟨A1, n, c1, bs, u⟩] _ (H8.out.2.1.keep HF.out.2) HF.out.1 H8.out.2.2.2.2.1 H8.out.2.2.2.1 (by omega)).mono ?_
        rintro e w9 ⟨rfl, hb9⟩
        have hb89 := HF.out.2.trans (hb9.mono HF.out.2.size)
        have HB9 := Lib.hid hb89
        clear b0 hb9 hb89
        go_wp2_with fail
        refine (allYes_c A9 1 c9 [some (bs, u)] w9 (H8.out.2.2.1.keep HB9.out) (fun o ho => by rw [List.mem_singleton.1 ho]; rfl) (by omega)).mono ?_
        rintro e w10 ⟨rfl, hb10⟩
        have hbz := (H8.out.1.trans (HB9.out.mono H8.out.1.size))
        have hbz2 := hbz.trans (hb10.mono hbz.size)
        go_wp2
        go_returns
        exact ⟨rfl, hbz2⟩
  · have hf : (n == 4 || n == 16) = false := by simpa using hl
    rw [hf]
    go_wp2_with fail
    go_returns
    exact ⟨rfl, hb0⟩
end Go.Proofs.YtaofindlomkbbaaDoor
