/-
  Contract of laws.places without zones.
-/
import Derived.Test.YtocckokbdacdfaaDoorCmpEach
namespace Go.Proofs.YtocckokbdacdfaaDoor
open Go Go.RowKit
theorem infoAddr : (Tryd.prog.info? 28).map (fun i => (i.zero, i.size, i.bytes)) = some (some (.agg #[.slice none 0 0, .string ⟨#[]⟩]), 2, 40) := by kernel_rfl
/-- Two rows of different element types lie in different blocks. -/
theorem own_ne {w : World} {b1 b2 : Nat} {e1 e2 : TypeId} {s1 s2 : Nat} {v1 v2 : Value} {n1 n2 : Nat} {x1 x2 : List Value} (h1 : w.ownsRow b1 e1 s1 v1 n1 x1) (h2 : w.ownsRow b2 e2 s2 v2 n2 x2) (hne : e1 ≠ e2) :
    v1.ownBlock = none ∨ v1.ownBlock ≠ v2.ownBlock := by
  rcases h1.2 with ⟨rfl, _⟩ | ⟨g, cap, cur, rfl, _, hg, _⟩
  · exact .inl rfl
  · right
    rcases h2.2 with ⟨rfl, _⟩ | ⟨g', cap', cur', rfl, _, hg', _⟩
    · simp [Value.ownBlock]
    · intro e
      simp [Value.ownBlock] at e
      subst e
      rw [hg] at hg'
      injection hg' with hg'
      injection hg' with _ he
      exact hne he
/-- A list of slices of bytes that came in. -/
def RS (w : World) (A : Option Addr) (n : Nat) (es : List En) : Prop :=
  es.length = n ∧ RC w A (es.map fun e => .slice e.a e.n e.c) ∧ ∀ e ∈ es, RB w e.a e.n e.bs ∧ (e.a = none → e.n = 0 ∧ e.c = 0) ∧ e.n ≤ 140737488355328
theorem RS.keep {w w' : World} {A : Option Addr} {n : Nat} {es : List En} (h : RS w A n es) (hb : Below w.heap.size w w') : RS w' A n es :=
  ⟨h.1, h.2.1.keep hb, fun e he => ⟨(h.2.2 e he).1.keep hb, (h.2.2 e he).2⟩⟩
theorem RS.at {w : World} {A : Option Addr} {n : Nat} {es : List En} (h : RS w A n es) {i : Nat} (hi : i < n) :
    ∃ g o e, A = some ⟨g, o, none⟩ ∧ g < w.heap.size ∧ es[i]? = some e ∧ w.cell? ⟨g, o + i, none⟩ = some (.slice e.a e.n e.c) ∧ RB w e.a e.n e.bs ∧ (e.a = none → e.n = 0 ∧ e.c = 0) ∧ e.n ≤ 140737488355328 := by
  have hl : i < es.length := by rw [h.1]; exact hi
  obtain ⟨g, o, hA, hg, hc⟩ := h.2.1 (by rw [List.length_map]; omega)
  exact ⟨g, o, es[i], hA, hg, List.getElem?_eq_getElem hl, hc i _ (by simp [hl]), h.2.2 _ (List.getElem_mem hl)⟩
/-- Own slices of bytes. -/
def ownEn (w : World) (B : Nat) (es : List En) : Prop := ∀ e ∈ es, w.ownsRow B 5 1 (.slice e.a e.n e.c) e.n (Lib.byteCells e.bs)
theorem ownEn.below {w w' : World} {B : Nat} {es : List En} (h : ownEn w B es) (hb : Below w.heap.size w w') : ownEn w' B es := fun e he => own_below (h e he) hb
def PlacesPost (w : World) (n : Nat) (es : List En) (e : Ending) (w' : World) : Prop :=
  ∃ A' c' es', e = .returned (.slice A' n c') ∧ RA w' A' n es' ∧ es'.map (·.bs) = es.map (·.bs) ∧ Below w.heap.size w w'
/-- Own slices of bytes stay, when a row of another type has grown. -/
theorem ownEn.grown {w w' : World} {B b2 : Nat} {e2 : TypeId} {s2 : Nat} {v2 : Value} {n2 : Nat} {x2 : List Value} {es : List En} (h : ownEn w B es) (h2 : w.ownsRow b2 e2 s2 v2 n2 x2) (hne : 5 ≠ e2) (hg : w.grownBy w' v2.ownBlock) : ownEn w' B es :=
  fun e he => (h e he).kept hg (own_ne (h e he) h2 hne)
theorem RA.of_own {w : World} {B b2 : Nat} {A : Option Addr} {n c : Nat} {es : List En} (h : w.ownsRow b2 28 2 (.slice A n c) n (enCells es)) (hl : es.length = n) (hi : ownEn w B es) : RA w A n es :=
  ⟨hl, RC.of_own h, fun e he => RB.of_own (hi e he)⟩
theorem places_none (A : Option Addr) (c : Nat) (w : World) :
    Calls Tryd.prog 11 #[.slice A 0 c, .slice none 0 0] w (PlacesPost w 0 []) := by
  go_enter Tryd.func11, Tryd.ntmps11
  go_wp2_with fail
  refine wp_loop_rounds 1 ?_
  rw [rounds_succ]
  go_wp2
  go_returns
  exact ⟨_, _, [], rfl, ⟨rfl, fun h => by simp [enCells] at h, by simp⟩, rfl, by go_grown⟩
set_option maxHeartbeats 4000000 in
theorem places_some (g o : Nat) (n c : Nat) (es : List En) (w : World) (hl : RS w (some ⟨g, o, none⟩) n es) (hn : n ≤ 1099511627776) :
    Calls Tryd.prog 11 #[.slice (some ⟨g, o, none⟩) n c, .slice none 0 0] w (PlacesPost w n es) := by
  obtain ⟨i0, hi, hz0, hz1, hz2⟩ := info_parts infoAddr
  go_enter Tryd.func11, Tryd.ntmps11
  go_wp2_with fail
  go_loopw [5, 12] (fun v i wr => ∃ (k : Nat) (es' : List En), k ≤ n ∧ i = .int .i64 k ∧ wr.ownsRow w.heap.size 28 2 v k (enCells es') ∧ es'.length = k ∧ es'.map (·.bs) = (es.take k).map (·.bs) ∧ ownEn wr w.heap.size es' ∧ Below w.heap.size w wr) (fun _ i _ => n - (intOf i).toNat)
  case atStart => exact ⟨0, [], Nat.zero_le _, rfl, own_empty _ _ _ _ _ (by simp) (by omega), rfl, rfl, fun e he => (by simp at he), by go_grown⟩
  case round =>
    obtain ⟨k, es', hk, rfl, hown, hlen, hmap, hin, hbb⟩ := hrel
    have HM := Lib.hid hmap
    have HL := Lib.hid hlen
    have HI := Lib.hid hin
    have HO := Lib.hid hown
    have HR := Lib.hid (own_row_ge hown)
    clear hmap hlen hin hown
    by_cases hlt : k < n
    · obtain ⟨g', o', e, hA, hg, hek, hc0, hb, hnil, hcap⟩ := (hl.keep hbb).at hlt
      injection hA with hA
      injection hA with hA1 hA2
      subst hA1 hA2
      have HE := Lib.hid hek
      have HN := Lib.hid hnil
      clear hek hnil
      go_wp2_with fail
      refine (plain_c e.a e.n e.c e.bs wr hb HN.out hcap).mono ?_
      rintro e1 w1 ⟨A', c', rfl, hown1, hb1⟩
      have HP := Lib.hid hown1
      have HOut := Lib.hid (own_below HO.out hb1)
      have HI1 := Lib.hid (HI.out.below hb1)
      have hs1 := hb1.size
      have hs0 := hbb.size
      clear hown1
      go_wp2_with (at_builtin; refine wpList_append_own _ rfl _ _ 23 rfl w.heap.size 28 i0 (.agg #[.slice none 0 0, .string ⟨#[]⟩]) 2 40 Tryd.underlying23 hi hz0 hz1 hz2 rfl (by decide) _ _ _ rfl ((HOut.out.alloc _).alloc _) ⟨w1.heap.size + 1, 0, none⟩ 1 1 [.slice A' e.n c', .string ⟨#[]⟩] rfl rfl ?c1 ?c2 ?c3 ?c4 ?c5 ?_)
      case c1 =>
        intro j u hj
        match j, hj with
        | 0, hj => simp at hj; subst hj; simp [Addr.add, go_sem]
        | 1, hj => simp at hj; subst hj; simp [Addr.add, go_sem]
      case c2 => intro u hu; simp at hu; rcases hu with rfl | rfl <;> rfl
      case c3 => unfold maxLen; omega
      case c4 => omega
      case c5 => simp; omega
      intro v' w2 hown2 hgrow _
      have hE1 : ownEn w1 w.heap.size (es' ++ [⟨A', e.n, c', e.bs⟩]) := fun x hx => by
        rcases List.mem_append.1 hx with hx | hx
        · exact HI1.out x hx
        · simp at hx; subst hx; exact own_mono HP.out hs0
      have hE2 := ((hE1.below ((Below.refl _ _).alloc (Nat.le_refl _) _)).below ((Below.refl _ _).alloc (Nat.le_refl _) _)).grown ((HOut.out.alloc _).alloc _) (by decide) hgrow
      have hb2 : Below w.heap.size w w2 := (((hbb.trans (hb1.mono hs0)).alloc (by omega) _).alloc (by simp; omega) _).grown hgrow (by simp; omega) HR.out
      have he2 : w2.ownsRow w.heap.size 28 2 v' (k + 1) (enCells (es' ++ [⟨A', e.n, c', e.bs⟩])) := by rw [enCells_append]; exact hown2
      have hm2 : (es' ++ [(⟨A', e.n, c', e.bs⟩ : En)]).map (·.bs) = (es.take (k + 1)).map (·.bs) := by
        rw [List.map_append, HM.out, List.take_add_one, HE.out]
        simp
      have hl2 : (es' ++ [(⟨A', e.n, c', e.bs⟩ : En)]).length = k + 1 := by rw [List.length_append, HL.out]; rfl
      generalize es' ++ [(⟨A', e.n, c', e.bs⟩ : En)] = es2 at hE2 he2 hm2 hl2
      have G1 := Lib.hid hE2
      have G2 := Lib.hid he2
      have G3 := Lib.hid hm2
      have G4 := Lib.hid hl2
      clear hE1 hE2 he2 hm2 hl2 hown2 hgrow HP HOut HI1 HM HL HI HO
      go_wp2
      go_roundw
      case rel => exact ⟨k + 1, es2, by omega, by go_num, G2.out, G4.out, G3.out, G1.out, hb2⟩
      case measure => simp [intOf]; omega
    · have hkn : k = n := by omega
      subst hkn
      go_wp2
      go_returns
      have hv : ∃ A' c', u5 = .slice A' k c' := by
        rcases HO.out.2 with ⟨hv, hz⟩ | ⟨g, cap, cur, hv, _⟩
        · exact ⟨none, 0, by rw [hv, hz]⟩
        · exact ⟨_, _, hv⟩
      obtain ⟨A', c', rfl⟩ := hv
      refine ⟨A', c', es', rfl, RA.of_own HO.out HL.out HI.out, ?_, hbb⟩
      rw [HM.out, List.take_of_length_le (by rw [hl.1]; omega)]
theorem places_c (A : Option Addr) (n c : Nat) (es : List En) (w : World) (hl : RS w A n es) (hn : n ≤ 1099511627776) :
    Calls Tryd.prog 11 #[.slice A n c, .slice none 0 0] w (PlacesPost w n es) := by
  by_cases h0 : n = 0
  · subst h0
    obtain rfl : es = [] := List.eq_nil_of_length_eq_zero hl.1
    exact places_none A c w
  · obtain ⟨g, o, rfl, _⟩ := hl.2.1 (by rw [List.length_map, hl.1]; omega)
    exact places_some g o n c es w hl hn
end Go.Proofs.YtocckokbdacdfaaDoor
