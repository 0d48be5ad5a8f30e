/-
  Contracts of impl.WalkOn and impl.WalkBack.
-/
import Derived.Test.YtocckokbdacdfaaDoorFromAddr
import Derived.Test.YtocckokbdacdfaaDoorPlaces
import Derived.Test.YtocckokbdacdfaaDoorKey
import Derived.Test.YtocckokbdacdfaaDoorApp
namespace Go.Proofs.YtocckokbdacdfaaDoor
open Go Go.RowKit
def iter (f : Ad → Ad) (x : Ad) : Nat → Ad
  | 0 => x
  | k + 1 => f (iter f x k)
def walkList (f : Ad → Ad) (x : Ad) (n : Nat) : List (List UInt8) := (List.range n).map fun i => bytesOf (iter f x (i + 1))
theorem walkList_succ (f : Ad → Ad) (x : Ad) (n : Nat) : walkList f x (n + 1) = walkList f x n ++ [bytesOf (iter f x (n + 1))] := by
  unfold walkList; rw [List.range_succ]; simp
def okAd (x : Ad) : Prop := x.h < 18446744073709551616 ∧ x.l < 18446744073709551616
theorem okAd_ite {c : Prop} [Decidable c] {a b : Ad} (ha : okAd a) (hb : okAd b) : okAd (if c then a else b) := by split <;> assumption
theorem okAd_zero : okAd ⟨0, 0, none⟩ := ⟨by show (0 : Nat) < _; omega, by show (0 : Nat) < _; omega⟩
theorem next_lt (x : Ad) : okAd (nextAd x) := okAd_ite okAd_zero ⟨Nat.mod_lt _ (by omega), Nat.mod_lt _ (by omega)⟩
theorem prev_lt (x : Ad) : okAd (prevAd x) := okAd_ite okAd_zero ⟨Nat.mod_lt _ (by omega), Nat.mod_lt _ (by omega)⟩
theorem iter_lt (f : Ad → Ad) (hf : ∀ x, (f x).h < 18446744073709551616 ∧ (f x).l < 18446744073709551616) (x : Ad) (hx : x.h < 18446744073709551616 ∧ x.l < 18446744073709551616) (k : Nat) : (iter f x k).h < 18446744073709551616 ∧ (iter f x k).l < 18446744073709551616 := by
  cases k with
  | zero => exact hx
  | succ k => exact hf _
/-- Own slices of bytes, whatever made them. -/
def ownEnT (w : World) (B : Nat) (es : List En) : Prop := ∀ e ∈ es, ∃ t, byteTag t ∧ w.ownsRow B t 1 (.slice e.a e.n e.c) e.n (Lib.byteCells e.bs)
theorem ownEnT.below {w w' : World} {B : Nat} {es : List En} (h : ownEnT w B es) (hb : Below w.heap.size w w') : ownEnT w' B es := fun e he => by
  obtain ⟨t, ht, ho⟩ := h e he
  exact ⟨t, ht, own_below ho hb⟩
theorem ownEnT.grown {w w' : World} {B b2 : Nat} {s2 : Nat} {v2 : Value} {n2 : Nat} {x2 : List Value} {es : List En} (h : ownEnT w B es) (h2 : w.ownsRow b2 28 s2 v2 n2 x2) (hg : w.grownBy w' v2.ownBlock) : ownEnT w' B es := fun e he => by
  obtain ⟨t, ht, ho⟩ := h e he
  exact ⟨t, ht, ho.kept hg (own_ne ho h2 (ht.ne (by decide) (by decide) (by decide)))⟩
theorem RA.of_ownT {w : World} {B b2 : Nat} {A : Option Addr} {n c : Nat} {es : List En} (h : w.ownsRow b2 28 2 (.slice A n c) n (enCells es)) (hl : es.length = n) (hi : ownEnT w B es) : RA w A n es :=
  ⟨hl, RC.of_own h, fun e he => by obtain ⟨t, _, ho⟩ := hi e he; exact RB.of_own ho⟩
/-- A block known whole. -/
def Blk (w : World) (g : Nat) (t : TypeId) (cs : Array Value) : Prop := w.heap[g]? = some (.cells cs t (0, 0))
theorem Blk.cell {w : World} {g : Nat} {t : TypeId} {cs : Array Value} (h : Blk w g t cs) : ∀ i, w.cell? ⟨g, i, none⟩ = cs[i]? := fun i => cell_of_row w g i cs t (0, 0) h
theorem Blk.free {w : World} {g : Nat} {t : TypeId} {cs : Array Value} (h : Blk w g t cs) : ∀ i, w.frozen? ⟨g, i, none⟩ = false := fun i => by
  unfold World.frozen?; rw [show w.heap[(⟨g, i, none⟩ : Addr).block]? = _ from h]; simp
theorem Blk.lt {w : World} {g : Nat} {t : TypeId} {cs : Array Value} (h : Blk w g t cs) : g < w.heap.size := (Array.getElem?_eq_some_iff.1 h).1
theorem Blk.below {w w' : World} {g : Nat} {t : TypeId} {cs : Array Value} (h : Blk w g t cs) (hb : Below w.heap.size w w') : Blk w' g t cs := (hb.block g h.lt).trans h
theorem Blk.set {w : World} {g : Nat} {t : TypeId} {cs : Array Value} (h : Blk w g t cs) (i : Nat) (u : Value) : Blk (w.setCell ⟨g, i, none⟩ u) g t (cs.setIfInBounds i u) := by
  unfold Blk at *
  simp only [World.setCell, Array.getElem?_modify, if_true, h]
  rfl
theorem Blk.grown {w w' : World} {g : Nat} {t : TypeId} {cs : Array Value} {row : Option Nat} (h : Blk w g t cs) (hg : w.grownBy w' row) (hne : some g ≠ row) : Blk w' g t cs := (hg.block g h.lt hne).trans h
theorem own_blk {w : World} {base : Nat} {e : TypeId} {size n : Nat} {v : Value} {xs : List Value} {g : Nat} {t : TypeId} {cs : Array Value} (h : w.ownsRow base e size v n xs) (hg : Blk w g t cs) (hne : e ≠ t) : v.ownBlock = none ∨ v.ownBlock ≠ some g := by
  rcases h.2 with ⟨rfl, _⟩ | ⟨g', cap, cur, rfl, _, hg', _⟩
  · exact .inl rfl
  · right
    intro e'
    simp [Value.ownBlock] at e'
    subst e'
    unfold Blk at hg
    rw [hg'] at hg
    injection hg with hg
    injection hg with _ he
    exact hne he
/-- A row stays when a cell of a block of another type is written. -/
theorem own_set {w : World} {base : Nat} {e : TypeId} {size n : Nat} {v : Value} {xs : List Value} {g : Nat} {t : TypeId} {cs : Array Value} (h : w.ownsRow base e size v n xs) (hg : Blk w g t cs) (hne : e ≠ t) (i : Nat) (u : Value) : (w.setCell ⟨g, i, none⟩ u).ownsRow base e size v n xs := by
  refine ⟨h.1, ?_⟩
  rcases h.2 with h2 | ⟨g', cap, cur, hv, hb, hg', r⟩
  · exact .inl h2
  · refine .inr ⟨g', cap, cur, hv, hb, ?_, r⟩
    rw [Below.heap_setCell _ _ _ _ (show g' ≠ g from fun e' => by
      subst e'
      unfold Blk at hg
      rw [hg'] at hg
      injection hg with hg
      injection hg with _ he
      exact hne he)]
    exact hg'
theorem ownEnT.set {w : World} {B : Nat} {es : List En} {g : Nat} {cs : Array Value} (h : ownEnT w B es) (hg : Blk w g 56 cs) (i : Nat) (u : Value) : ownEnT (w.setCell ⟨g, i, none⟩ u) B es := fun e he => by
  obtain ⟨t, ht, ho⟩ := h e he
  exact ⟨t, ht, own_set ho hg (ht.ne (by decide) (by decide) (by decide)) i u⟩
/-- What WalkOn and WalkBack hand back. -/
def WalkPost (w : World) (n : Nat) (l : List (List UInt8)) (e : Ending) (w' : World) : Prop :=
  ∃ A' c' es', e = .returned (.slice A' n c') ∧ w'.ownsRow w.heap.size 28 2 (.slice A' n c') n (enCells es') ∧ es'.length = n ∧ es'.map (·.bs) = l ∧ ownEnT w' w.heap.size es' ∧ Below w.heap.size w w'
set_option maxHeartbeats 8000000 in
theorem walkOn_c (A0 : Option Addr) (n0 c0 : Nat) (bs : List UInt8) (n : Nat) (z : ZP) (w : World) (hz : Zs w z) (hr : RB w A0 n0 bs) (hn : n ≤ 4096) :
    Calls Tryd.prog 14 #[.agg #[.slice A0 n0 c0, .string ⟨#[]⟩], .int .i64 n] w (WalkPost w n (walkList nextAd (adOf bs) n)) := by
  obtain ⟨i0, hi, hz0, hz1, hz2⟩ := info_parts infoAddr
  go_enter Tryd.func14, Tryd.ntmps14
  go_wp2_with fail
  have hbx : Below w.heap.size w ((w.alloc (.cells #[.slice A0 n0 c0, .string ⟨#[]⟩] 28)).alloc (.cells #[] 28)) := by go_grown
  have hown0 : ((w.alloc (.cells #[.slice A0 n0 c0, .string ⟨#[]⟩] 28)).alloc (.cells #[] 28)).ownsRow w.heap.size 28 2 (.slice (some ⟨w.heap.size + 1, 0, none⟩) 0 0) 0 [] := own_empty _ _ _ _ _ (by simp) (by omega)
  refine (address_c A0 n0 c0 bs z _ (hz.keep hbx) (hr.keep hbx)).mono ?_
  rintro e w1 ⟨rfl, hb1⟩
  have hown1 := own_below hown0 hb1
  have hbw : Below w.heap.size w w1 := hbx.trans (hb1.mono hbx.size)
  clear hbx hown0 hb1
  have hx := adOf_lt bs
  generalize adOf bs = x at *
  have HO := Lib.hid hown1
  have HX := Lib.hid hx
  clear hown1 hx
  go_wp2_with fail
  go_loopw [5, 1] (fun v i wr => ∃ (k : Nat) (es' : List En), k ≤ n ∧ i = .int .i64 ((n : Int) - k) ∧ wr.ownsRow w.heap.size 28 2 v k (enCells es') ∧ es'.length = k ∧ es'.map (·.bs) = walkList nextAd x k ∧ ownEnT wr w.heap.size es' ∧ Below w.heap.size w wr ∧ Blk wr w1.heap.size 56 #[.int .u64 (iter nextAd x k).h, .int .u64 (iter nextAd x k).l, .pointer (z.ptr (iter nextAd x k).k)]) (fun _ i _ => (intOf i).toNat)
  case atStart => exact ⟨0, [], Nat.zero_le _, by go_num, HO.out.alloc _, rfl, rfl, fun e he => (by simp at he), hbw.alloc hbw.size _, heap_alloc_new _ _⟩
  case round =>
    obtain ⟨k, es', hk, rfl, hown, hlen, hmap, hin, hbb, hblk⟩ := hrel
    have HM := Lib.hid hmap
    have HL := Lib.hid hlen
    have HI := Lib.hid hin
    have HO := Lib.hid hown
    have HR := Lib.hid (own_row_ge hown)
    have HK := Lib.hid hblk
    have hxk := iter_lt nextAd next_lt x HX.out k
    clear hmap hlen hin hown
    by_cases hlt : k < n
    · obtain ⟨y, hy⟩ : ∃ y, y = iter nextAd x k := ⟨_, rfl⟩
      rw [← hy] at hblk hxk HK
      have HY := Lib.hid hy
      clear hy
      have c0 := hblk.cell
      have hlt1 : w1.heap.size < wr.heap.size := hblk.lt
      go_wp2_with fail
      refine (next_c y z wr (hz.keep hbb)).mono ?_
      rintro e w2 ⟨rfl, hb2⟩
      have hyn : nextAd y = iter nextAd x (k + 1) := by rw [HY.out]; rfl
      have hyl := next_lt y
      generalize nextAd y = y2 at *
      have HY2 := Lib.hid hyn
      have hblk2 := HK.out.below hb2
      have hs2 := hb2.size
      have hs0 := hbb.size
      have f0 := hblk2.free
      clear c0 hyn hblk HK
      have c0 := hblk2.cell
      have HK2 := Lib.hid hblk2
      clear hblk2
      go_wp2_with fail
      have hK3 := ((HK2.out.set 0 (.int .u64 y2.h)).set 1 (.int .u64 y2.l)).set 2 (.pointer (z.ptr y2.k))
      have hz3 : Zs (((w2.setCell ⟨w1.heap.size, 0, none⟩ (.int .u64 y2.h)).setCell ⟨w1.heap.size, 1, none⟩ (.int .u64 y2.l)).setCell ⟨w1.heap.size, 2, none⟩ (.pointer (z.ptr y2.k))) z := hz.keep ((((hbb.trans (hb2.mono hs0)).setCell hbw.size _).setCell hbw.size _).setCell hbw.size _)
      refine (fromAddr_c y2 z _ hz3 hyl.1 hyl.2).mono ?_
      rintro e w3 ⟨A', m, c', t, rfl, ht, hown3, hb3⟩
      have o2 := own_below HO.out hb2
      have o3 := own_set (own_set (own_set o2 HK2.out (by decide) 0 (.int .u64 y2.h)) (HK2.out.set 0 _) (by decide) 1 (.int .u64 y2.l)) ((HK2.out.set 0 _).set 1 _) (by decide) 2 (.pointer (z.ptr y2.k))
      have o4 := own_below o3 hb3
      have i2 := HI.out.below hb2
      have i3 := ((i2.set HK2.out 0 (.int .u64 y2.h)).set (HK2.out.set 0 _) 1 (.int .u64 y2.l)).set ((HK2.out.set 0 _).set 1 _) 2 (.pointer (z.ptr y2.k))
      have i4 := i3.below hb3
      have k4 := hK3.below hb3
      have hs3 := hb3.size
      simp only [World.size_setCell] at hs3 hown3
      have hbb3 : Below w.heap.size w w3 := ((((hbb.trans (hb2.mono hs0)).setCell hbw.size _).setCell hbw.size _).setCell hbw.size _).trans (hb3.mono (by simp only [World.size_setCell]; omega))
      have e4 : ownEnT w3 w.heap.size (es' ++ [⟨A', m, c', bytesOf y2⟩]) := fun x' hx' => by
        rcases List.mem_append.1 hx' with hx' | hx'
        · exact i4 x' hx'
        · simp at hx'; subst hx'; exact ⟨t, ht, own_mono hown3 (by omega)⟩
      have HO4 := Lib.hid o4
      have HE4 := Lib.hid e4
      have HK4 := Lib.hid k4
      clear o2 o3 o4 i2 i3 i4 k4 hown3 hb3 hb2 hK3 hz3 c0 f0 HK2 HI HO e4
      go_wp2_with ((at_builtin; refine append1 rfl _ _ 23 rfl (w.heap.size) 28 i0 (.agg #[.slice none 0 0, .string ⟨#[]⟩]) 2 40 Tryd.underlying23 hi hz0 hz1 hz2 rfl (by decide) _ _ _ rfl (HO4.out) _ _ [.slice A' m c', .string ⟨#[]⟩] rfl (by simp) rfl rfl (by unfold maxLen; omega) (by omega) (by first | omega | (simp; omega)) ?_))
      intro v' w4 hown4 hgrow
      have he2 : w4.ownsRow w.heap.size 28 2 v' (k + 1) (enCells (es' ++ [⟨A', m, c', bytesOf y2⟩])) := by rw [enCells_append]; exact hown4
      have hE2 := (HE4.out.below ((Below.refl _ _).alloc (Nat.le_refl _) _)).grown (HO4.out.alloc _) hgrow
      have hk4 : Blk (w3.alloc (.cells #[.slice A' m c', .string ⟨#[]⟩] 28)) w1.heap.size _ _ := HK4.out.below ((Below.refl _ _).alloc (Nat.le_refl _) _)
      have hK2 := hk4.grown hgrow (by
        rcases own_blk HO4.out HK4.out (by decide) with h | h
        · rw [h]; simp
        · exact fun e => h e.symm)
      have hb4 : Below w.heap.size w w4 := (hbb3.alloc (by omega) _).grown hgrow (by simp; omega) HR.out
      have hm2 : (es' ++ [(⟨A', m, c', bytesOf y2⟩ : En)]).map (·.bs) = walkList nextAd x (k + 1) := by
        rw [List.map_append, HM.out, walkList_succ, ← HY2.out]
        simp
      have hl2 : (es' ++ [(⟨A', m, c', bytesOf y2⟩ : En)]).length = k + 1 := by rw [List.length_append, HL.out]; rfl
      generalize es' ++ [(⟨A', m, c', bytesOf y2⟩ : En)] = es2 at hE2 he2 hm2 hl2
      have hK5 : Blk w4 w1.heap.size 56 #[.int .u64 (iter nextAd x (k + 1)).h, .int .u64 (iter nextAd x (k + 1)).l, .pointer (z.ptr (iter nextAd x (k + 1)).k)] := by rw [← HY2.out]; exact hK2
      have G1 := Lib.hid hE2
      have G2 := Lib.hid he2
      have G3 := Lib.hid hm2
      have G4 := Lib.hid hl2
      have G5 := Lib.hid hK5
      clear hE2 he2 hm2 hl2 hK5 hK2 hk4 hown4 hgrow HO4 HE4 HK4 HM HL
      go_wp2
      go_roundw
      case rel => exact ⟨k + 1, es2, by omega, by go_num, G2.out, G4.out, G3.out, G1.out, hb4, G5.out⟩
      case measure => simp [intOf]; omega
    · have hkn : k = n := by omega
      subst hkn
      clear hblk hxk
      go_wp2
      go_returns
      obtain ⟨A', c', rfl⟩ := own_slice HO.out
      exact ⟨A', c', es', rfl, HO.out, HL.out, HM.out, HI.out, hbb⟩
set_option maxHeartbeats 8000000 in
theorem walkBack_c (A0 : Option Addr) (n0 c0 : Nat) (bs : List UInt8) (n : Nat) (z : ZP) (w : World) (hz : Zs w z) (hr : RB w A0 n0 bs) (hn : n ≤ 4096) :
    Calls Tryd.prog 21 #[.agg #[.slice A0 n0 c0, .string ⟨#[]⟩], .int .i64 n] w (WalkPost w n (walkList prevAd (adOf bs) n)) := by
  obtain ⟨i0, hi, hz0, hz1, hz2⟩ := info_parts infoAddr
  go_enter Tryd.func21, Tryd.ntmps21
  go_wp2_with fail
  have hbx : Below w.heap.size w ((w.alloc (.cells #[.slice A0 n0 c0, .string ⟨#[]⟩] 28)).alloc (.cells #[] 28)) := by go_grown
  have hown0 : ((w.alloc (.cells #[.slice A0 n0 c0, .string ⟨#[]⟩] 28)).alloc (.cells #[] 28)).ownsRow w.heap.size 28 2 (.slice (some ⟨w.heap.size + 1, 0, none⟩) 0 0) 0 [] := own_empty _ _ _ _ _ (by simp) (by omega)
  refine (address_c A0 n0 c0 bs z _ (hz.keep hbx) (hr.keep hbx)).mono ?_
  rintro e w1 ⟨rfl, hb1⟩
  have hown1 := own_below hown0 hb1
  have hbw : Below w.heap.size w w1 := hbx.trans (hb1.mono hbx.size)
  clear hbx hown0 hb1
  have hx := adOf_lt bs
  generalize adOf bs = x at *
  have HO := Lib.hid hown1
  have HX := Lib.hid hx
  clear hown1 hx
  go_wp2_with fail
  go_loopw [5, 1] (fun v i wr => ∃ (k : Nat) (es' : List En), k ≤ n ∧ i = .int .i64 ((n : Int) - k) ∧ wr.ownsRow w.heap.size 28 2 v k (enCells es') ∧ es'.length = k ∧ es'.map (·.bs) = walkList prevAd x k ∧ ownEnT wr w.heap.size es' ∧ Below w.heap.size w wr ∧ Blk wr w1.heap.size 56 #[.int .u64 (iter prevAd x k).h, .int .u64 (iter prevAd x k).l, .pointer (z.ptr (iter prevAd x k).k)]) (fun _ i _ => (intOf i).toNat)
  case atStart => exact ⟨0, [], Nat.zero_le _, by go_num, HO.out.alloc _, rfl, rfl, fun e he => (by simp at he), hbw.alloc hbw.size _, heap_alloc_new _ _⟩
  case round =>
    obtain ⟨k, es', hk, rfl, hown, hlen, hmap, hin, hbb, hblk⟩ := hrel
    have HM := Lib.hid hmap
    have HL := Lib.hid hlen
    have HI := Lib.hid hin
    have HO := Lib.hid hown
    have HR := Lib.hid (own_row_ge hown)
    have HK := Lib.hid hblk
    have hxk := iter_lt prevAd prev_lt x HX.out k
    clear hmap hlen hin hown
    by_cases hlt : k < n
    · obtain ⟨y, hy⟩ : ∃ y, y = iter prevAd x k := ⟨_, rfl⟩
      rw [← hy] at hblk hxk HK
      have HY := Lib.hid hy
      clear hy
      have c0 := hblk.cell
      have hlt1 : w1.heap.size < wr.heap.size := hblk.lt
      go_wp2_with fail
      refine (prev_c y z wr (hz.keep hbb) hxk.1 hxk.2).mono ?_
      rintro e w2 ⟨rfl, hb2⟩
      have hyn : prevAd y = iter prevAd x (k + 1) := by rw [HY.out]; rfl
      have hyl := prev_lt y
      generalize prevAd y = y2 at *
      have HY2 := Lib.hid hyn
      have hblk2 := HK.out.below hb2
      have hs2 := hb2.size
      have hs0 := hbb.size
      have f0 := hblk2.free
      clear c0 hyn hblk HK
      have c0 := hblk2.cell
      have HK2 := Lib.hid hblk2
      clear hblk2
      go_wp2_with fail
      have hK3 := ((HK2.out.set 0 (.int .u64 y2.h)).set 1 (.int .u64 y2.l)).set 2 (.pointer (z.ptr y2.k))
      have hz3 : Zs (((w2.setCell ⟨w1.heap.size, 0, none⟩ (.int .u64 y2.h)).setCell ⟨w1.heap.size, 1, none⟩ (.int .u64 y2.l)).setCell ⟨w1.heap.size, 2, none⟩ (.pointer (z.ptr y2.k))) z := hz.keep ((((hbb.trans (hb2.mono hs0)).setCell hbw.size _).setCell hbw.size _).setCell hbw.size _)
      refine (fromAddr_c y2 z _ hz3 hyl.1 hyl.2).mono ?_
      rintro e w3 ⟨A', m, c', t, rfl, ht, hown3, hb3⟩
      have o2 := own_below HO.out hb2
      have o3 := own_set (own_set (own_set o2 HK2.out (by decide) 0 (.int .u64 y2.h)) (HK2.out.set 0 _) (by decide) 1 (.int .u64 y2.l)) ((HK2.out.set 0 _).set 1 _) (by decide) 2 (.pointer (z.ptr y2.k))
      have o4 := own_below o3 hb3
      have i2 := HI.out.below hb2
      have i3 := ((i2.set HK2.out 0 (.int .u64 y2.h)).set (HK2.out.set 0 _) 1 (.int .u64 y2.l)).set ((HK2.out.set 0 _).set 1 _) 2 (.pointer (z.ptr y2.k))
      have i4 := i3.below hb3
      have k4 := hK3.below hb3
      have hs3 := hb3.size
      simp only [World.size_setCell] at hs3 hown3
      have hbb3 : Below w.heap.size w w3 := ((((hbb.trans (hb2.mono hs0)).setCell hbw.size _).setCell hbw.size _).setCell hbw.size _).trans (hb3.mono (by simp only [World.size_setCell]; omega))
      have e4 : ownEnT w3 w.heap.size (es' ++ [⟨A', m, c', bytesOf y2⟩]) := fun x' hx' => by
        rcases List.mem_append.1 hx' with hx' | hx'
        · exact i4 x' hx'
        · simp at hx'; subst hx'; exact ⟨t, ht, own_mono hown3 (by omega)⟩
      have HO4 := Lib.hid o4
      have HE4 := Lib.hid e4
      have HK4 := Lib.hid k4
      clear o2 o3 o4 i2 i3 i4 k4 hown3 hb3 hb2 hK3 hz3 c0 f0 HK2 HI HO e4
      go_wp2_with ((at_builtin; refine append1 rfl _ _ 23 rfl (w.heap.size) 28 i0 (.agg #[.slice none 0 0, .string ⟨#[]⟩]) 2 40 Tryd.underlying23 hi hz0 hz1 hz2 rfl (by decide) _ _ _ rfl (HO4.out) _ _ [.slice A' m c', .string ⟨#[]⟩] rfl (by simp) rfl rfl (by unfold maxLen; omega) (by omega) (by first | omega | (simp; omega)) ?_))
      intro v' w4 hown4 hgrow
      have he2 : w4.ownsRow w.heap.size 28 2 v' (k + 1) (enCells (es' ++ [⟨A', m, c', bytesOf y2⟩])) := by rw [enCells_append]; exact hown4
      have hE2 := (HE4.out.below ((Below.refl _ _).alloc (Nat.le_refl _) _)).grown (HO4.out.alloc _) hgrow
      have hk4 : Blk (w3.alloc (.cells #[.slice A' m c', .string ⟨#[]⟩] 28)) w1.heap.size _ _ := HK4.out.below ((Below.refl _ _).alloc (Nat.le_refl _) _)
      have hK2 := hk4.grown hgrow (by
        rcases own_blk HO4.out HK4.out (by decide) with h | h
        · rw [h]; simp
        · exact fun e => h e.symm)
      have hb4 : Below w.heap.size w w4 := (hbb3.alloc (by omega) _).grown hgrow (by simp; omega) HR.out
      have hm2 : (es' ++ [(⟨A', m, c', bytesOf y2⟩ : En)]).map (·.bs) = walkList prevAd x (k + 1) := by
        rw [List.map_append, HM.out, walkList_succ, ← HY2.out]
        simp
      have hl2 : (es' ++ [(⟨A', m, c', bytesOf y2⟩ : En)]).length = k + 1 := by rw [List.length_append, HL.out]; rfl
      generalize es' ++ [(⟨A', m, c', bytesOf y2⟩ : En)] = es2 at hE2 he2 hm2 hl2
      have hK5 : Blk w4 w1.heap.size 56 #[.int .u64 (iter prevAd x (k + 1)).h, .int .u64 (iter prevAd x (k + 1)).l, .pointer (z.ptr (iter prevAd x (k + 1)).k)] := by rw [← HY2.out]; exact hK2
      have G1 := Lib.hid hE2
      have G2 := Lib.hid he2
      have G3 := Lib.hid hm2
      have G4 := Lib.hid hl2
      have G5 := Lib.hid hK5
      clear hE2 he2 hm2 hl2 hK5 hK2 hk4 hown4 hgrow HO4 HE4 HK4 HM HL
      go_wp2
      go_roundw
      case rel => exact ⟨k + 1, es2, by omega, by go_num, G2.out, G4.out, G3.out, G1.out, hb4, G5.out⟩
      case measure => simp [intOf]; omega
    · have hkn : k = n := by omega
      subst hkn
      clear hblk hxk
      go_wp2
      go_returns
      obtain ⟨A', c', rfl⟩ := own_slice HO.out
      exact ⟨A', c', es', rfl, HO.out, HL.out, HM.out, HI.out, hbb⟩
end Go.Proofs.YtocckokbdacdfaaDoor
