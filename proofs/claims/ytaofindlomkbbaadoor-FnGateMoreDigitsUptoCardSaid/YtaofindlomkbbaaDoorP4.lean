/-
  Contract: parseIPv4Fields.
-/
import Derived.Test.YtaofindlomkbbaaDoorTextM
import Derived.Test.YtaofindlomkbbaaDoorBlk
import Derived.OwnWalk
import Derived.BigFrame
import Derived.BigGuardPart
namespace Go.Proofs.YtaofindlomkbbaaDoor
open Go Go.RowKit
/-- Cells with bytes put in from a place on. -/
def putF (cs : Array Value) (o : Nat) : List UInt8 → Array Value
  | [] => cs
  | f :: r => putF (cs.setIfInBounds o (.int .u8 f.toNat)) (o + 1) r
theorem putF_size (fs : List UInt8) : ∀ (cs : Array Value) (o : Nat), (putF cs o fs).size = cs.size := by
  induction fs with
  | nil => intro cs o; rfl
  | cons f r ih => intro cs o; rw [putF, ih]; simp
theorem putF_snoc (fs : List UInt8) (f : UInt8) : ∀ (cs : Array Value) (o : Nat), putF cs o (fs ++ [f]) = (putF cs o fs).setIfInBounds (o + fs.length) (.int .u8 f.toNat) := by
  induction fs with
  | nil => intro cs o; rfl
  | cons x r ih => intro cs o; rw [List.cons_append, putF, ih, putF, List.length_cons, show o + 1 + r.length = o + (r.length + 1) by omega]
theorem grown_set {w wr : World} {g : Nat} (h : w.grownBy wr (some g)) (i : Nat) (u : Value) : w.grownBy (wr.setCell ⟨g, i, none⟩ u) (some g) := by
  have hs : (wr.setCell ⟨g, i, none⟩ u).heap.size = wr.heap.size := by simp [World.setCell]
  refine ⟨h.os, h.tape, h.output, by rw [hs]; exact h.size, fun k hk hn => ?_⟩
  rw [Below.heap_setCell _ _ _ _ (fun e => hn (by rw [e]))]
  exact h.block k hk hn
/-- The bytes of a string from one place to another one. -/
def bytesIn (s : ByteArray) (a b : Nat) : List UInt8 := (s.data.toList.drop a).take (b - a)
theorem extract_list (s : ByteArray) (a b : Nat) : (s.extract a b).data.toList = bytesIn s a b := by
  unfold bytesIn
  rw [ByteArray.data_extract]
  simp
theorem at_list (s : ByteArray) (i : Nat) (h : i < s.size) : s.data.toList.drop i = s[i] :: s.data.toList.drop (i + 1) := by
  have h' : i < s.data.toList.length := by simpa using h
  rw [List.drop_eq_getElem_cons h']
  rfl
theorem str_len (S : ByteArray) : S.data.toList.length = S.size := by simp
def P4Post (w : World) (g : Nat) (T : TypeId) (cs : Array Value) (o : Nat) (r : Option (List UInt8)) (e : Ending) (w' : World) : Prop :=
  w.grownBy w' (some g) ∧ match r with
    | none => ∃ x cs', e = .returned (.iface 89 x) ∧ Blk w' g T cs' ∧ cs'.size = cs.size
    | some fs => e = .returned .nilIface ∧ fs.length = 4 ∧ Blk w' g T (putF cs o fs)
set_option maxRecDepth 100000 in
set_option maxHeartbeats 8000000 in
theorem p4_c (s : ByteArray) (a b : Nat) (g o c : Nat) (T : TypeId) (cs : Array Value) (w : World) (hab : a ≤ b) (hb : b ≤ s.size) (hs : s.size ≤ 4611686018427387904) (hg : Blk w g T cs) (ho : o + 4 ≤ cs.size) :
    Calls Tryd.prog 64 #[.string s, .int .i64 a, .int .i64 b, .slice (some ⟨g, o, none⟩) 4 c] w (P4Post w g T cs o (Tx.p4 (bytesIn s a b) 0 0 [])) := by
  obtain ⟨S, hS⟩ : ∃ S, S = s.extract a b := ⟨_, rfl⟩
  have hSL : S.data.toList = bytesIn s a b := by rw [hS]; exact extract_list s a b
  have hSz : S.size = b - a := by
    have := congrArg List.length hSL
    unfold bytesIn at this
    simp at this
    omega
  rw [← hSL]
  obtain ⟨R, hR⟩ : ∃ R, R = Tx.p4 S.data.toList 0 0 [] := ⟨_, rfl⟩
  rw [← hR]
  have HS := Lib.hid hS
  have HR := Lib.hid hR
  have hSm : S.size ≤ 4611686018427387904 := by omega
  have HZ := Lib.hid (And.intro hSz hSL)
  clear hS hSL hSz hR
  go_enter Tryd.func64, Tryd.ntmps64
  go_wp2_with fail
  rw [← HS.out]
  go_loopw [9, 10, 11, 13] (fun vv vp vd vi wr => ∃ (i val pos dl : Nat) (fs : List UInt8), i ≤ S.size ∧ vi = .int .i64 i ∧ vv = .int .i64 val ∧ vp = .int .i64 pos ∧ vd = .int .i64 dl ∧ val ≤ 255 ∧ pos ≤ 3 ∧ dl ≤ i ∧
    Hid (R = Tx.p4 (S.data.toList.drop i) val dl fs ∧ fs.length = pos ∧ (i = 0 → dl = 0) ∧ (∀ k, i = k + 1 → (S.data.toList[k]? = some 46 ↔ dl = 0))) ∧ w.grownBy wr (some g) ∧ Hid (Blk wr g T (putF cs o fs))) (fun _ _ _ i _ => S.size - (intOf i).toNat)
  case atStart => exact ⟨0, 0, 0, 0, [], by omega, rfl, rfl, rfl, rfl, by omega, by omega, by omega, ⟨HR.out, rfl, fun _ => rfl, fun k h => by omega⟩, World.grownBy.refl _ _, hg⟩
  case round =>
    obtain ⟨i, val, pos, dl, fs, hi, rfl, rfl, rfl, rfl, hv, hp, hd, hinv, hgr, hblk⟩ := hrel
    by_cases hlt : i < S.size
    · obtain ⟨x, hx⟩ : ∃ x, x = (S[i]'hlt).toNat := ⟨_, rfl⟩
      have hx256 : x < 256 := by rw [hx]; exact UInt8.toNat_lt _
      have hx' : (S[i]'hlt).toNat = x := hx.symm
      have HX := Lib.hid hx
      clear hx
      have hlt' : (i : Int) < (S.size : Int) := by omega
      have hat := at_list S i hlt
      have hp4 := hinv.out.1
      rw [hat] at hp4
      have hck : ∀ n : Nat, n < 256 → (S[i]'hlt = UInt8.ofNat n ↔ x = n) := fun n hn => by
        rw [← UInt8.toNat_inj, hx', UInt8.toNat_ofNat', Nat.mod_eq_of_lt hn]
      have HI := Lib.hid (And.intro hinv.out.2.1 (And.intro hinv.out.2.2.1 hinv.out.2.2.2))
      have hfp : fs.length = pos := hinv.out.2.1
      clear hinv hat
      by_cases hdg : 48 ≤ x ∧ x ≤ 57
      · have hd1 : (48 : Int) ≤ x := by omega
        have hd2 : (x : Int) ≤ 57 := by omega
        have hdig : Tx.isDig (S[i]'hlt) = true := by unfold Tx.isDig; rw [hx']; simp; omega
        unfold Tx.p4 at hp4
        rw [if_pos hdig, hx'] at hp4
        by_cases h1 : dl = 1 ∧ val = 0
        · obtain ⟨rfl, rfl⟩ := h1
          rw [if_pos ⟨rfl, rfl⟩] at hp4
          have HP := Lib.hid hp4
          clear hp4 hck hdig hfp
          go_wp2
          go_returns
          refine ⟨hgr, ?_⟩
          rw [HP.out]
          exact ⟨_, _, rfl, hblk.out, putF_size _ _ _⟩
        · rw [if_neg h1] at hp4
          have hn1 : ((dl : Int) == 1 && (val : Int) == 0) = false := by simp; omega
          have hcase : ((dl : Int) == 1) = false ∨ (((dl : Int) == 1) = true ∧ ((val : Int) == 0) = false) := by
            by_cases h : dl = 1
            · right; simp [h]; omega
            · left; simp; omega
          by_cases h2 : 255 < val * 10 + (x - 48)
          · rw [if_pos h2] at hp4
            have h2i : (255 : Int) < (val : Int) * 10 + x - 48 := by omega
            have HP := Lib.hid hp4
            clear hp4 hck hdig h1 hn1 hfp
            rcases hcase with h | ⟨h, h'⟩
            all_goals
              go_wp2
              go_returns
              refine ⟨hgr, ?_⟩
              rw [HP.out]
              exact ⟨_, _, rfl, hblk.out, putF_size _ _ _⟩
          · rw [if_neg h2] at hp4
            have h2i : (val : Int) * 10 + x - 48 ≤ 255 := by omega
            have HP := Lib.hid hp4
            clear hp4 hck hdig h1 hn1
            rcases hcase with h | ⟨h, h'⟩
            all_goals
              go_wp2
              go_roundw
              case rel =>
                refine ⟨i + 1, val * 10 + (x - 48), pos, dl + 1, fs, by omega, by go_num, by congr 1; omega, rfl, by go_num, by omega, hp, by omega, ⟨HP.out, HI.out.1, by omega, fun k hk => ?_⟩, hgr, hblk⟩
                obtain rfl : k = i := by omega
                have e : S.data.toList[k]? = some (S[k]'hlt) := by
                  have := at_list S k hlt
                  rw [← List.head?_drop, this]; rfl
                rw [e]
                constructor
                · intro h; injection h with h; rw [h] at hx'; simp at hx'; omega
                · omega
              case measure => simp [intOf]; omega
      · have hdig : Tx.isDig (S[i]'hlt) = false := by
          unfold Tx.isDig; rw [hx']
          rw [Bool.and_eq_false_iff]; simp; omega
        have hcase : ¬ (48 : Int) ≤ x ∨ ((48 : Int) ≤ x ∧ ¬ (x : Int) ≤ 57) := by omega
        unfold Tx.p4 at hp4
        rw [hdig, if_neg (by simp)] at hp4
        by_cases h46 : x = 46
        · have hc46 : (S[i]'hlt) = 46 := (hck 46 (by decide)).2 h46
          have hxi : (x : Int) == 46 := by simp [h46]
          subst h46
          rw [if_pos hc46] at hp4
          clear hck hdig hcase hdg
          by_cases hi0 : i = 0
          · have hd0 : dl = 0 := HI.out.2.1 hi0
            rw [if_pos (.inl hd0)] at hp4
            have HP := Lib.hid hp4
            subst hi0
            clear hp4 hd0 hxi hfp
            go_wp2
            go_returns
            refine ⟨hgr, ?_⟩
            rw [HP.out]
            exact ⟨_, _, rfl, hblk.out, putF_size _ _ _⟩
          · have e0 : ((i : Int) == 0) = false := by simp; omega
            by_cases hie : i + 1 = S.size
            · have hdn : S.data.toList.drop (i + 1) = [] := List.drop_eq_nil_of_le (by rw [str_len]; omega)
              rw [if_pos (.inr hdn)] at hp4
              have HP := Lib.hid hp4
              have e1 : ((i : Int) == (S.size : Int) - 1) = true := by simp; omega
              clear hp4 hdn hxi hfp
              go_wp2
              go_returns
              refine ⟨hgr, ?_⟩
              rw [HP.out]
              exact ⟨_, _, rfl, hblk.out, putF_size _ _ _⟩
            · have e1 : ((i : Int) == (S.size : Int) - 1) = false := by simp; omega
              have hdn : S.data.toList.drop (i + 1) ≠ [] := by
                rw [at_list S (i + 1) (by omega)]; simp
              have hk : i - 1 < S.size := by omega
              obtain ⟨y, hy⟩ : ∃ y, y = (S[i - 1]'hk).toNat := ⟨_, rfl⟩
              have hy256 : y < 256 := by rw [hy]; exact UInt8.toNat_lt _
              have hyd : y = 46 ↔ dl = 0 := by
                rw [← HI.out.2.2 (i - 1) (by omega)]
                have e : S.data.toList[i - 1]? = some (S[i - 1]'hk) := by
                  have := at_list S (i - 1) hk
                  rw [← List.head?_drop, this]; rfl
                rw [e, hy, Option.some.injEq, ← UInt8.toNat_inj]
                rfl
              have hy' : (S[i - 1]'hk).toNat = y := hy.symm
              have i1 : (1 : Int) ≤ i := by omega
              clear hy
              by_cases hy46 : y = 46
              · rw [if_pos (.inl (hyd.1 hy46))] at hp4
                have HP := Lib.hid hp4
                have e2 : ((y : Int) == 46) = true := by simp [hy46]
                clear hp4 hdn hxi hyd hy46 hfp
                go_wp2
                go_returns
                refine ⟨hgr, ?_⟩
                rw [HP.out]
                exact ⟨_, _, rfl, hblk.out, putF_size _ _ _⟩
              · rw [if_neg (by rintro (h | h); exact hy46 (hyd.2 h); exact hdn h)] at hp4
                have e2 : ((y : Int) == 46) = false := by simp; omega
                clear hyd hdn hxi hy46
                by_cases hp3 : pos = 3
                · rw [if_pos (by omega)] at hp4
                  have HP := Lib.hid hp4
                  subst hp3
                  clear hp4 hfp
                  go_wp2
                  go_returns
                  refine ⟨hgr, ?_⟩
                  rw [HP.out]
                  exact ⟨_, _, rfl, hblk.out, putF_size _ _ _⟩
                · have e3 : ((pos : Int) == 3) = false := by simp; omega
                  rw [if_neg (by omega)] at hp4
                  have HP := Lib.hid hp4
                  have hsz := putF_size fs cs o
                  have hcell := hblk.out.cell (o + pos)
                  have hfree := hblk.out.free (o + pos)
                  obtain ⟨u, hu⟩ : ∃ u, (putF cs o fs)[o + pos]? = some u := ⟨_, Array.getElem?_eq_getElem (show o + pos < (putF cs o fs).size by omega)⟩
                  rw [hu] at hcell
                  have hp4' : (pos : Int) < 4 := by omega
                  have hval : UInt8.ofNat val = UInt8.ofNat val := rfl
                  have HF := Lib.hid hfp
                  clear hp4 hsz hfp hval hu
                  go_wp2
                  go_roundw
                  case rel =>
                    refine ⟨i + 1, 0, pos + 1, 0, fs ++ [UInt8.ofNat val], by omega, by go_num, rfl, by go_num, rfl, by omega, by omega, by omega, ⟨HP.out, by simp; exact HF.out, by omega, fun k hk => ?_⟩, grown_set hgr _ _, ?_⟩
                    · obtain rfl : k = i := by omega
                      have e : S.data.toList[k]? = some (S[k]'hlt) := by
                        have := at_list S k hlt
                        rw [← List.head?_drop, this]; rfl
                      rw [e, hc46]
                      simp
                    · rw [putF_snoc, HF.out, show ((UInt8.ofNat val).toNat : Int) = (val : Int) by rw [UInt8.toNat_ofNat']; omega]
                      exact Lib.hid (hblk.out.set _ _)
                  case measure => simp [intOf]; omega
        · have hc46 : ¬ (S[i]'hlt) = 46 := fun h => h46 ((hck 46 (by decide)).1 h)
          have hxi : ((x : Int) == 46) = false := by simp; omega
          rw [if_neg hc46] at hp4
          have HP := Lib.hid hp4
          clear hp4 hck hdig hc46
          rcases hcase with h | ⟨h, h'⟩
          all_goals
            go_wp2
            go_returns
            refine ⟨hgr, ?_⟩
            rw [HP.out]
            exact ⟨_, _, rfl, hblk.out, putF_size _ _ _⟩
    · obtain rfl : i = S.size := by omega
      have hp4 := hinv.out.1
      have hfp : fs.length = pos := hinv.out.2.1
      rw [List.drop_eq_nil_of_le (by rw [str_len]; omega)] at hp4
      unfold Tx.p4 at hp4
      by_cases h3 : pos < 3
      · rw [if_pos (by omega)] at hp4
        have h3i : (pos : Int) < 3 := by omega
        have HP := Lib.hid hp4
        clear hp4 hfp
        go_wp2
        go_returns
        refine ⟨hgr, ?_⟩
        rw [HP.out]
        exact ⟨_, _, rfl, hblk.out, putF_size _ _ _⟩
      · rw [if_neg (by omega)] at hp4
        obtain rfl : pos = 3 := by omega
        have HP := Lib.hid hp4
        have hsz := putF_size fs cs o
        have hcell := hblk.out.cell (o + 3)
        have hfree := hblk.out.free (o + 3)
        obtain ⟨u, hu⟩ : ∃ u, (putF cs o fs)[o + 3]? = some u := ⟨_, Array.getElem?_eq_getElem (show o + 3 < (putF cs o fs).size by omega)⟩
        rw [hu] at hcell
        have HF := Lib.hid hfp
        clear hp4 hsz hfp hu
        go_wp2
        go_returns
        refine ⟨grown_set hgr _ _, ?_⟩
        rw [HP.out]
        refine ⟨rfl, by simp [HF.out], ?_⟩
        rw [putF_snoc, HF.out, show ((UInt8.ofNat val).toNat : Int) = (val : Int) by rw [UInt8.toNat_ofNat']; omega]
        exact hblk.out.set _ _
end Go.Proofs.YtaofindlomkbbaaDoor
