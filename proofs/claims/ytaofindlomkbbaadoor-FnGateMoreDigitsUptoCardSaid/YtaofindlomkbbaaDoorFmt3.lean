/-
  Contract: appendTo6.
-/
import Derived.Test.YtaofindlomkbbaaDoorFmt2
namespace Go.Proofs.YtaofindlomkbbaaDoor
open Go Go.RowKit
/-- The groups of an IPv6 address as the library has it. -/
def gsOf (h l : Nat) : List Nat := [v6n h l 0, v6n h l 1, v6n h l 2, v6n h l 3, v6n h l 4, v6n h l 5, v6n h l 6, v6n h l 7]
theorem gsOf_len (h l : Nat) : (gsOf h l).length = 8 := rfl
theorem gsOf_at (h l i : Nat) (hi : i < 8) : (gsOf h l).getD i 0 = v6n h l i := by
  match i, hi with
  | 0, _ | 1, _ | 2, _ | 3, _ | 4, _ | 5, _ | 6, _ | 7, _ => rfl
theorem gsOf_lt (h l : Nat) : Tx.Gs (gsOf h l) := by
  intro g hg
  simp only [gsOf, List.mem_cons, List.not_mem_nil, or_false] at hg
  rcases hg with rfl | rfl | rfl | rfl | rfl | rfl | rfl | rfl <;> exact v6n_lt _ _ _
theorem run_is {gs : List Nat} : ∀ (n i j : Nat), j - i = n → i ≤ j → j ≤ gs.length → (∀ k, i ≤ k → k < j → gs.getD k 0 = 0) → (j = gs.length ∨ gs.getD j 0 ≠ 0) → j = i + Tx.runAt (gs.drop i)
  | 0, i, j, hn, hij, hj, _, he => by
    obtain rfl : i = j := by omega
    rcases he with he | he
    · rw [List.drop_eq_nil_of_le (by omega)]; rfl
    · by_cases h : i < gs.length
      · rw [Tx.drop_cons h, Tx.runAt, if_neg he]; rfl
      · rw [List.drop_eq_nil_of_le (by omega)]; rfl
  | n + 1, i, j, hn, hij, hj, hz, he => by
    rw [Tx.drop_cons (by omega), Tx.runAt, if_pos (hz i (by omega) (by omega))]
    have := run_is n (i + 1) j (by omega) (by omega) hj (fun k h1 h2 => hz k (by omega) h2) he
    omega
theorem best_step {gs : List Nat} {i j a b : Nat} (h : (a, b) = Tx.bestTo gs i) (hji : j = i + Tx.runAt (gs.drop i)) : Tx.bestTo gs (i + 1) = if 2 ≤ j - i ∧ b - a < j - i then (i, j) else (a, b) := by
  have e : Tx.runAt (gs.drop i) = j - i := by omega
  have e2 : i + (j - i) = j := by omega
  unfold Tx.bestTo
  rw [← h, e, e2]
set_option maxRecDepth 100000 in
set_option maxHeartbeats 8000000 in
theorem to6_c (B : Nat) (v : Value) (t : List UInt8) (h l : Nat) (z : ZP) (W0 W1 w : World) (hb : TB B W0 W1 w v t) (hz : Zs W0 z) (hWB : W0.heap.size ≤ B) (hlen : t.length + 48 ≤ 140737488355328) :
    Calls Tryd.prog 38 #[.agg #[.int .u64 h, .int .u64 l, .pointer (z.ptr (some true))], v] w fun e w' => ∃ v', e = .returned v' ∧ TB B W0 W1 w' v' (t ++ Tx.v6T (gsOf h l) (Tx.runOf (gsOf h l))) := by
  obtain ⟨i0, hi, hz0, hz1, hz2⟩ := info_parts infoU8
  rw [ptr6]
  obtain ⟨w1, hw1⟩ : ∃ w1, w1 = w.alloc (.cells #[.int .u64 h, .int .u64 l, .pointer (some ⟨z.b6, z.o6, none⟩)] 54) := ⟨_, rfl⟩
  have hbx : Blk w1 w.heap.size 54 #[.int .u64 h, .int .u64 l, .pointer (some ⟨z.b6, z.o6, none⟩)] := by rw [hw1]; exact heap_alloc_new _ _
  have h1 : TB B W0 w1 w1 v t := by rw [hw1]; exact (hb.alloc _).anew
  have hb1 : Below w.heap.size w w1 := by rw [hw1]; exact (Below.refl _ _).alloc (Nat.le_refl _) _
  obtain ⟨g, hg⟩ : ∃ g, g = w.heap.size := ⟨_, rfl⟩
  have HB := Lib.hid (And.intro hb hb1)
  have HW := Lib.hid hw1
  have HZ := Lib.hid (And.intro hz hWB)
  rw [← hg] at hbx
  have HG := Lib.hid hg
  clear hb hb1 hw1 hg hz hWB
  obtain ⟨gs, hgs⟩ : ∃ gs, gs = gsOf h l := ⟨_, rfl⟩
  have hgl : gs.length = 8 := by rw [hgs]; rfl
  have HGS := Lib.hid hgs
  rw [← hgs]
  clear hgs
  go_enter Tryd.func38, Tryd.ntmps38
  go_wp2_with fail
  rw [← HW.out, ← HG.out]
  go_loopw [5, 6, 7] (fun va vb vi wr => ∃ (i a b : Nat), i ≤ 8 ∧ vi = .int .u8 i ∧ va = .int .u8 a ∧ vb = .int .u8 b ∧ Hid ((a, b) = Tx.bestTo gs i) ∧ Below w1.heap.size w1 wr) (fun _ _ i _ => 8 - (intOf i).toNat)
  case atStart => exact ⟨0, 255, 255, by omega, rfl, rfl, rfl, rfl, Below.refl _ _⟩
  case round =>
    obtain ⟨i, a, b, hi8, rfl, rfl, rfl, hab, hbb⟩ := hrel
    by_cases hlt : i < 8
    · have hbnd : a ≤ b ∧ b ≤ 255 ∧ (i + 1 ≤ 8) := by
        have e := hab.out
        rcases Tx.bestTo_bounds hgl i hi8 with h' | ⟨h1', h2', h3'⟩
        · rw [h'] at e; injection e with e1 e2; omega
        · have e1 := congrArg Prod.fst e; have e2 := congrArg Prod.snd e; simp only at e1 e2; omega
      obtain ⟨wo, hwo⟩ : ∃ wo, wo = wr := ⟨_, rfl⟩
      subst hwo
      have hbo := hbx.below hbb
      have r0 := hbo.cell
      have hgo := hbo.lt
      have hli : (i : Int) < 8 := by omega
      go_wp2_with fail
      go_loopw [8] (fun vj wr => ∃ j : Nat, i ≤ j ∧ j ≤ 8 ∧ vj = .int .u8 j ∧ Hid (∀ k, i ≤ k → k < j → gs.getD k 0 = 0) ∧ Below wo.heap.size wo wr) (fun j _ => 8 - (intOf j).toNat)
      case atStart => exact ⟨i, Nat.le_refl _, hi8, rfl, fun k h1 h2 => absurd h1 (by omega), Below.refl _ _⟩
      case round =>
        obtain ⟨j, hij, hj8, rfl, hzz, hbj⟩ := hrel
        have hr := (hbo.below hbj).cell
        clear r0
        by_cases hj : j < 8
        · have hjl : (j : Int) < 8 := by omega
          have hgj : gs.getD j 0 = v6n h l j := by rw [HGS.out]; exact gsOf_at h l j hj
          have H4 := Lib.hid hgj
          clear hgj
          go_wp2_with fail
          refine (v6_c h l _ j hj wr).mono ?_
          rintro e w2 ⟨rfl, hb2⟩
          have hbj2 := hbj.trans (hb2.mono hbj.size)
          clear hb2 hbj
          by_cases h0 : v6n h l j = 0
          · have e0 : ((v6n h l j : Nat) : Int) = 0 := by omega
            rw [e0]
            have HR := Lib.hid h0
            clear e0 h0
            go_wp2
            go_roundw
            case rel =>
              refine ⟨j + 1, by omega, by omega, by go_num, fun k h1 h2 => ?_, hbj2⟩
              by_cases hk : k < j
              · exact hzz.out k h1 hk
              · obtain rfl : k = j := by omega
                rw [H4.out]; exact HR.out
            case measure => simp [intOf]; omega
          · have e0 : (((v6n h l j : Nat) : Int) == 0) = false := by simp; omega
            have hji : j = i + Tx.runAt (gs.drop i) := run_is (j - i) i j rfl hij (by omega) hzz.out (.inr (by rw [H4.out]; exact h0))
            have HJI := Lib.hid hji
            have hbo2 := hbb.trans (hbj2.mono hbb.size)
            clear h0 hji
            go_wp2
            all_goals (refine ⟨⟨i + 1, _, _, by omega, by go_num, rfl, rfl, ?_, hbo2⟩, by simp [intOf]; omega⟩; rw [best_step hab.out HJI.out])
            · rw [if_pos (by omega)]; rfl
            · rw [if_neg (by omega)]; rfl
            · rw [if_neg (by omega)]; rfl
        · obtain rfl : j = 8 := by omega
          have hji : 8 = i + Tx.runAt (gs.drop i) := run_is (8 - i) i 8 rfl hij (by omega) hzz.out (.inl hgl.symm)
          have HJI := Lib.hid hji
          have hbo2 := hbb.trans (hbj.mono hbb.size)
          clear hji hbj
          go_wp2
          all_goals (refine ⟨⟨i + 1, _, _, by omega, by go_num, rfl, by go_num, ?_, hbo2⟩, by simp [intOf]; omega⟩; rw [best_step hab.out HJI.out])
          · rw [if_pos (by omega)]; rfl
          · rw [if_neg (by omega)]; rfl
          · rw [if_neg (by omega)]; rfl
    · obtain rfl : i = 8 := by omega
      have hbnd : (a = 255 ∧ b = 255) ∨ (a < b ∧ b ≤ 8) := by
        have e := hab.out
        rcases Tx.bestTo_bounds hgl 8 (Nat.le_refl _) with h' | ⟨h1', h2', h3'⟩
        · rw [h'] at e; injection e with e1 e2; omega
        · have e1 := congrArg Prod.fst e; have e2 := congrArg Prod.snd e; simp only at e1 e2; omega
      have hem : Tx.em gs a b 8 0 = Tx.v6T gs (Tx.runOf gs) := by rw [← Tx.em_v6 hgl, ← hab.out]
      have HE := Lib.hid hem
      have hs := (h1.below hbb)
      clear hem hbb hab
      obtain ⟨wo, hwo⟩ : ∃ wo, wo = wr := ⟨_, rfl⟩
      subst hwo
      go_wp2_with fail
      rw [show ((8 : Nat) : Int) = 8 from rfl]
      go_loopw [1, 10] (fun vr vi wr => ∃ (i f : Nat) (x : List UInt8), i ≤ 8 ∧ vi = .int .u8 i ∧ TB B W0 w1 wr vr x ∧ x.length ≤ t.length + 6 * i ∧ Hid (8 - i ≤ f ∧ x ++ Tx.em gs a b f i = t ++ Tx.v6T gs (Tx.runOf gs))) (fun _ i _ => 8 - (intOf i).toNat)
      case atStart => exact ⟨0, 8, t, by omega, rfl, hs, by omega, ⟨by omega, by rw [HE.out]⟩⟩
      case round =>
        obtain ⟨i, f, x, hi8, rfl, hx, hxl, hem⟩ := hrel
        have r0 := (hx.blk hbx (by decide)).cell
        by_cases hlt : i < 8
        · have hli : (i : Int) < 8 := by omega
          have HX := Lib.hid hx
          clear hx
          by_cases hia : i = a
          · subst hia
            have hib : i < b ∧ b ≤ 8 := by omega
            obtain ⟨f, rfl⟩ : ∃ f', f = f' + 1 := ⟨f - 1, by have := hem.out.1; omega⟩
            have he := hem.out.2
            unfold Tx.em at he
            rw [if_neg (by omega), if_pos rfl] at he
            by_cases hb8 : 8 ≤ b
            · obtain rfl : b = 8 := by omega
              rw [if_pos (by omega)] at he
              have HEM := Lib.hid he
              clear he hem
              go_wp2_with (at_builtin; (refine app_two i0 hi hz0 hz1 hz2 rfl _ _ rfl rfl 58 58 _ _ rfl rfl HX.out rfl (by omega) ?_; intro v4 w4 h4; have r4 := (h4.blk hbx (by decide)).cell; have H4 := Lib.hid h4; have hz4 := HZ.out.1.keep (h4.low.mono HZ.out.2); obtain ⟨s0, s1, s2, q4, q6, z4, z6, z0, hne, hne', p4, p6⟩ := hz4.lay; clear hz4 h4))
              go_returns
              refine ⟨_, rfl, ?_⟩
              rw [← HEM.out]
              exact HB.out.1.back (TB.past HB.out.2 H4.out)
            · have hb8' : b < 8 := by omega
              have hbl : (b : Int) < 8 := by omega
              rw [if_neg hb8, show gs.getD b 0 = v6n h l b by rw [HGS.out]; exact gsOf_at h l b hb8'] at he
              have HEM := Lib.hid he
              clear he
              go_wp2_with (at_builtin; (refine app_two i0 hi hz0 hz1 hz2 rfl _ _ rfl rfl 58 58 _ _ rfl rfl HX.out rfl (by omega) ?_; intro v4 w4 h4; have r4 := (h4.blk hbx (by decide)).cell; have H4 := Lib.hid h4; clear h4))
              refine (v6_c h l _ b hb8' w4).mono ?_
              rintro e w5 ⟨rfl, hb5⟩
              have h5 := H4.out.below hb5
              clear hb5 r4 r0
              go_wp2_with fail
              refine (hex_c B _ _ (v6n h l b) W0 w1 w5 h5 (by simp; omega) (v6n_lt _ _ _)).mono ?_
              rintro e w6 ⟨v6, rfl, h6⟩
              have hl6 := hex_le (v6n h l b)
              have H6 := Lib.hid h6
              clear h5 h6
              go_wp2
              go_roundw
              case rel => exact ⟨b + 1, f, _, by omega, by go_num, H6.out, by simp; omega, ⟨by have := hem.out.1; omega, by rw [← HEM.out]; simp⟩⟩
              case measure => simp [intOf]; omega
          · have hne : ((i : Int) == (a : Int)) = false := by simp; omega
            obtain ⟨f, rfl⟩ : ∃ f', f = f' + 1 := ⟨f - 1, by have := hem.out.1; omega⟩
            have he := hem.out.2
            unfold Tx.em at he
            rw [if_neg (by omega), if_neg hia, show gs.getD i 0 = v6n h l i by rw [HGS.out]; exact gsOf_at h l i hlt] at he
            have hl6 := hex_le (v6n h l i)
            by_cases h0 : 0 < i
            · have h0i : (0 : Int) < (i : Int) := by omega
              rw [if_pos h0] at he
              have HEM := Lib.hid he
              clear he hia
              go_wp2_with (at_builtin; (refine app_byte i0 hi hz0 hz1 hz2 rfl _ _ rfl rfl 58 _ rfl HX.out rfl (by omega) ?_; intro v4 w4 h4; have r4 := (h4.blk hbx (by decide)).cell; have H4 := Lib.hid h4; clear h4))
              refine (v6_c h l _ i hlt w4).mono ?_
              rintro e w5 ⟨rfl, hb5⟩
              have h5 := H4.out.below hb5
              clear hb5 r4 r0
              go_wp2_with fail
              refine (hex_c B _ _ (v6n h l i) W0 w1 w5 h5 (by simp; omega) (v6n_lt _ _ _)).mono ?_
              rintro e w6 ⟨v6, rfl, h6⟩
              have H6 := Lib.hid h6
              clear h5 h6
              go_wp2
              go_roundw
              case rel => exact ⟨i + 1, f, _, by omega, by go_num, H6.out, by simp; omega, ⟨by have := hem.out.1; omega, by rw [← HEM.out]; simp⟩⟩
              case measure => simp [intOf]; omega
            · obtain rfl : i = 0 := by omega
              rw [if_neg h0, List.nil_append] at he
              have HEM := Lib.hid he
              clear he hia
              go_wp2_with fail
              refine (v6_c h l _ 0 hlt wr).mono ?_
              rintro e w5 ⟨rfl, hb5⟩
              have h5 := HX.out.below hb5
              clear hb5 r0
              go_wp2_with fail
              refine (hex_c B _ _ (v6n h l 0) W0 w1 w5 h5 (by omega) (v6n_lt _ _ _)).mono ?_
              rintro e w6 ⟨v6, rfl, h6⟩
              have H6 := Lib.hid h6
              clear h5 h6
              go_wp2
              go_roundw
              case rel => exact ⟨1, f, _, by omega, by go_num, H6.out, by simp; omega, ⟨by have := hem.out.1; omega, by rw [← HEM.out]; simp⟩⟩
              case measure => simp [intOf]
        · obtain rfl : i = 8 := by omega
          have he : x = t ++ Tx.v6T gs (Tx.runOf gs) := by
            have := hem.out.2
            have e0 : Tx.em gs a b f 8 = [] := by cases f <;> simp [Tx.em]
            rw [e0, List.append_nil] at this
            exact this
          have hz4 := HZ.out.1.keep (hx.low.mono HZ.out.2)
          obtain ⟨s0, s1, s2, q4, q6, z4, z6, z0, hne, hne', p4, p6⟩ := hz4.lay
          have HX := Lib.hid hx
          have HEM := Lib.hid he
          clear hx hz4 he hem
          go_wp2
          go_returns
          refine ⟨_, rfl, ?_⟩
          rw [← HEM.out]
          exact HB.out.1.back (TB.past HB.out.2 HX.out)
end Go.Proofs.YtaofindlomkbbaaDoor
