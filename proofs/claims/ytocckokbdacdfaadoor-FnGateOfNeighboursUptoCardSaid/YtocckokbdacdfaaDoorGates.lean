/-
  Lists of addresses with ports; contract of laws.gates without zones.
-/
import Derived.Test.YtocckokbdacdfaaDoorGate
import Derived.Test.YtocckokbdacdfaaDoorWalkPlain
namespace Go.Proofs.YtocckokbdacdfaaDoor
open Go Go.RowKit
theorem i64_and65535 (n : Int) : bits .and .i64 n 65535 = n % 65536 := by
  have h1 : (BitVec.ofInt 64 65535).toNat = 2 ^ 16 - 1 := by decide
  have key : (BitVec.ofInt 64 n &&& BitVec.ofInt 64 65535).toNat = (n % ((2 ^ 64 : Nat) : Int)).toNat % 2 ^ 16 := by
    rw [BitVec.toNat_and, BitVec.toNat_ofInt, h1, Nat.and_two_pow_sub_one_eq_mod]
  show IntKind.i64.wrap ((BitVec.ofInt 64 n &&& BitVec.ofInt 64 65535).toNat : Nat) = n % 65536
  rw [key, IntKind.wrap_i64]
  omega
def portN (n : Int) : Nat := (n % 65536).toNat
theorem portN_lt (n : Int) : portN n < 65536 := by unfold portN; omega
theorem portN_and (n : Int) : bits .and .i64 n 65535 = (portN n : Int) := by rw [i64_and65535]; unfold portN; omega
theorem wrap_u16 (n : Nat) (h : n < 65536) : IntKind.u16.wrap (n : Int) = n := by
  show (n : Int) % 65536 = n
  omega
/-- An address with a port in a list: its slice value, its bytes, the port. The zone is empty. -/
structure Gt where
  a : Option Addr
  n : Nat
  c : Nat
  bs : List UInt8
  p : Nat
def Gt.cells (e : Gt) : List Value := [.slice e.a e.n e.c, .string ⟨#[]⟩, .int .u16 e.p]
def gtCells (es : List Gt) : List Value := es.flatMap Gt.cells
theorem gtCells_len (es : List Gt) : (gtCells es).length = es.length * 3 := by
  induction es with
  | nil => rfl
  | cons x r ih => simp only [gtCells, List.flatMap_cons, List.length_append, List.length_cons] at *; simp only [Gt.cells, List.length_cons, List.length_nil]; omega
theorem gtCells_append (es fs : List Gt) : gtCells (es ++ fs) = gtCells es ++ gtCells fs := by simp [gtCells]
theorem gtCells_get (es : List Gt) (i : Nat) (hi : i < es.length) : (gtCells es)[i * 3]? = some (.slice es[i].a es[i].n es[i].c) ∧ (gtCells es)[i * 3 + 1]? = some (.string ⟨#[]⟩) ∧ (gtCells es)[i * 3 + 2]? = some (.int .u16 es[i].p) := by
  induction es generalizing i with
  | nil => simp at hi
  | cons x r ih =>
    cases i with
    | zero => exact ⟨rfl, rfl, rfl⟩
    | succ i =>
      have := ih i (by simpa using hi)
      have e1 : (i + 1) * 3 = i * 3 + 3 := by omega
      simp only [e1, gtCells, List.flatMap_cons, Gt.cells, List.cons_append, List.nil_append, List.getElem_cons_succ] at this ⊢
      exact ⟨this.1, this.2.1, this.2.2⟩
/-- A list of addresses with ports that can be read. -/
def RG (w : World) (A : Option Addr) (n : Nat) (es : List Gt) : Prop :=
  es.length = n ∧ RC w A (gtCells es) ∧ ∀ e ∈ es, RB w e.a e.n e.bs
theorem RG.keep {w w' : World} {A : Option Addr} {n : Nat} {es : List Gt} (h : RG w A n es) (hb : Below w.heap.size w w') : RG w' A n es :=
  ⟨h.1, h.2.1.keep hb, fun e he => (h.2.2 e he).keep hb⟩
theorem RG.at {w : World} {A : Option Addr} {n : Nat} {es : List Gt} (h : RG w A n es) {i : Nat} (hi : i < n) :
    ∃ g o e, A = some ⟨g, o, none⟩ ∧ g < w.heap.size ∧ es[i]? = some e ∧ w.cell? ⟨g, o + i * 3, none⟩ = some (.slice e.a e.n e.c) ∧ w.cell? ⟨g, o + i * 3 + 1, none⟩ = some (.string ⟨#[]⟩) ∧ w.cell? ⟨g, o + i * 3 + 2, none⟩ = some (.int .u16 e.p) ∧ RB w e.a e.n e.bs := by
  have hl : i < es.length := by rw [h.1]; exact hi
  obtain ⟨g, o, hA, hg, hc⟩ := h.2.1 (by rw [gtCells_len]; omega)
  have he := gtCells_get es i hl
  exact ⟨g, o, es[i], hA, hg, List.getElem?_eq_getElem hl, hc _ _ he.1, hc _ _ he.2.1, hc _ _ he.2.2, h.2.2 _ (List.getElem_mem hl)⟩
def ownGt (w : World) (B : Nat) (es : List Gt) : Prop := ∀ e ∈ es, w.ownsRow B 5 1 (.slice e.a e.n e.c) e.n (Lib.byteCells e.bs)
theorem ownGt.below {w w' : World} {B : Nat} {es : List Gt} (h : ownGt w B es) (hb : Below w.heap.size w w') : ownGt w' B es := fun e he => own_below (h e he) hb
theorem ownGt.grown {w w' : World} {B b2 : Nat} {e2 : TypeId} {s2 : Nat} {v2 : Value} {n2 : Nat} {x2 : List Value} {es : List Gt} (h : ownGt w B es) (h2 : w.ownsRow b2 e2 s2 v2 n2 x2) (hne : 5 ≠ e2) (hg : w.grownBy w' v2.ownBlock) : ownGt w' B es :=
  fun e he => (h e he).kept hg (own_ne (h e he) h2 hne)
theorem RG.of_own {w : World} {B b2 : Nat} {A : Option Addr} {n c : Nat} {es : List Gt} (h : w.ownsRow b2 39 3 (.slice A n c) n (gtCells es)) (hl : es.length = n) (hi : ownGt w B es) : RG w A n es :=
  ⟨hl, RC.of_own h, fun e he => RB.of_own (hi e he)⟩
/-- What gates hands back. -/
def GatesT (B n : Nat) (v : Value) (w : World) : Prop :=
  ∃ A k c es, v = .slice A k c ∧ w.ownsRow B 39 3 (.slice A k c) k (gtCells es) ∧ es.length = k ∧ k ≤ n ∧ (∀ e ∈ es, isLen e.bs.length ∧ e.p < 65536) ∧ ownGt w B es
theorem GatesT.keep {B n : Nat} {v : Value} {w w' : World} (h : GatesT B n v w) (hb : Below w.heap.size w w') : GatesT B n v w' := by
  obtain ⟨A, k, c, es, h1, h2, h3, h4, h5, h6⟩ := h
  exact ⟨A, k, c, es, h1, own_below h2 hb, h3, h4, h5, h6.below hb⟩
theorem infoPort : (Tryd.prog.info? 39).map (fun i => (i.zero, i.size, i.bytes)) = some (some (.agg #[.slice none 0 0, .string ⟨#[]⟩, .int .u16 0]), 3, 48) := by kernel_rfl
/-- A list of numbers that came in. -/
def RI (w : World) (A : Option Addr) (n : Nat) (xs : List Int) : Prop := xs.length = n ∧ RC w A (xs.map fun x => .int .i64 x)
theorem RI.keep {w w' : World} {A : Option Addr} {n : Nat} {xs : List Int} (h : RI w A n xs) (hb : Below w.heap.size w w') : RI w' A n xs := ⟨h.1, h.2.keep hb⟩
theorem RI.at {w : World} {A : Option Addr} {n : Nat} {xs : List Int} (h : RI w A n xs) {i : Nat} (hi : i < n) : ∃ g o x, A = some ⟨g, o, none⟩ ∧ g < w.heap.size ∧ w.cell? ⟨g, o + i, none⟩ = some (.int .i64 x) := by
  have hl : i < xs.length := by rw [h.1]; exact hi
  obtain ⟨g, o, hA, hg, hc⟩ := h.2 (by rw [List.length_map]; omega)
  exact ⟨g, o, xs[i], hA, hg, hc i _ (by simp [hl])⟩
/-- One more element, appended. -/
theorem gates_push {w wr w1 W w3 : World} {es' : List Gt} {A' : Option Addr} {n c' p : Nat} {bs : List UInt8} {v : Value} {o : Obj} (hbb : Below w.heap.size w wr) (hs0 : w.heap.size ≤ wr.heap.size) (HO : wr.ownsRow w.heap.size 39 3 v es'.length (gtCells es')) (HI : ownGt wr w.heap.size es')
    (HP : w1.ownsRow w.heap.size 5 1 (.slice A' n c') n (Lib.byteCells bs)) (hW : Below w1.heap.size w1 W) (hb1 : Below wr.heap.size wr w1) (hgrow : (W.alloc o).grownBy w3 v.ownBlock) :
    ownGt w3 w.heap.size (es' ++ [⟨A', n, c', bs, p⟩]) ∧ Below w.heap.size w w3 := by
  have hb2 := hb1.trans (hW.mono hb1.size)
  have hx : Below W.heap.size W (W.alloc o) := (Below.refl _ _).alloc (Nat.le_refl _) _
  have hb3 := hb2.trans (hx.mono hb2.size)
  have hE : ownGt (W.alloc o) w.heap.size (es' ++ [⟨A', n, c', bs, p⟩]) := fun x hx' => by
    rcases List.mem_append.1 hx' with hx' | hx'
    · exact (HI.below hb3) x hx'
    · simp at hx'; subst hx'; exact own_below (own_below HP hW) hx
  refine ⟨hE.grown (own_below HO hb3) (by decide) hgrow, (hbb.trans (hb3.mono hs0)).grown hgrow (Nat.le_trans hs0 hb3.size) (own_row_ge HO)⟩
theorem gates_none (A : Option Addr) (c : Nat) (B : Option Addr) (m d : Nat) (w : World) :
    Calls Tryd.prog 18 #[.slice A 0 c, .slice none 0 0, .slice B m d] w fun e w' => ∃ v, e = .returned v ∧ GatesT w.heap.size 0 v w' ∧ Below w.heap.size w w' := by
  go_enter Tryd.func18, Tryd.ntmps18
  go_wp2_with fail
  refine wp_loop_rounds 1 ?_
  rw [rounds_succ]
  go_wp2
  go_returns
  exact ⟨_, rfl, ⟨_, _, _, [], rfl, own_empty _ _ _ _ _ rfl (Nat.le_refl _), rfl, Nat.le_refl _, fun e he => (by simp at he), fun e he => (by simp at he)⟩, by go_grown⟩
set_option maxHeartbeats 8000000 in
theorem gates_some (g o : Nat) (n c : Nat) (es : List En) (B : Option Addr) (m d : Nat) (xs : List Int) (w : World) (hl : RS w (some ⟨g, o, none⟩) n es) (hn : n ≤ 1099511627776) (hx : RI w B m xs) :
    Calls Tryd.prog 18 #[.slice (some ⟨g, o, none⟩) n c, .slice none 0 0, .slice B m d] w fun e w' => ∃ v, e = .returned v ∧ GatesT w.heap.size n v w' ∧ Below w.heap.size w w' := by
  obtain ⟨i0, hi, hz0, hz1, hz2⟩ := info_parts infoPort
  go_enter Tryd.func18, Tryd.ntmps18
  go_wp2_with fail
  go_loopw [7, 14] (fun v i wr => ∃ (k : Nat) (es' : List Gt), k ≤ n ∧ i = .int .i64 k ∧ wr.ownsRow w.heap.size 39 3 v es'.length (gtCells es') ∧ es'.length ≤ k ∧ (∀ e ∈ es', isLen e.bs.length ∧ e.p < 65536) ∧ ownGt wr w.heap.size es' ∧ Below w.heap.size w wr) (fun _ i _ => n - (intOf i).toNat)
  case atStart => exact ⟨0, [], Nat.zero_le _, rfl, own_empty _ _ _ _ _ rfl (Nat.le_refl _), Nat.le_refl _, fun e he => (by simp at he), fun e he => (by simp at he), by go_grown⟩
  case round =>
    obtain ⟨k, es', hk, rfl, hown, hlen, hall, hin, hbb⟩ := hrel
    have HA := Lib.hid hall
    have HI := Lib.hid hin
    have HO := Lib.hid hown
    have HR := Lib.hid (own_row_ge hown)
    clear hall hin hown
    by_cases hlt : k < n
    · obtain ⟨g', o', e, hA, hg, hek, hc0, hb, hnil, hcap⟩ := (hl.keep hbb).at hlt
      injection hA with hA
      injection hA with hA1 hA2
      subst hA1 hA2
      clear hek
      have HN := Lib.hid hnil
      have hel := hb.1
      clear hnil
      go_wp2_with fail
      refine (isAddress_c e.a e.n e.c wr).mono ?_
      rintro e1 w0 ⟨rfl, hb0⟩
      by_cases hla : (e.n == 4 || e.n == 16) = true
      · rw [hla]
        have hisl : isLen e.bs.length := by rw [hel]; simpa [isLen] using hla
        go_wp2_with fail
        refine (plain_c e.a e.n e.c e.bs w0 (hb.keep hb0) HN.out hcap).mono ?_
        rintro e1 w1 ⟨A', c', rfl, hown1, hb1'⟩
        have hb1 := hb0.trans (hb1'.mono hb0.size)
        have hs1 := hb1.size
        have hs0 := hbb.size
        have hs2 := hb0.size
        have HP := Lib.hid (own_mono hown1 (Nat.le_trans hs0 hs2))
        clear hown1 hb1' hb0
        have hbx : Below w1.heap.size w1 (w1.alloc (.cells #[.slice A' e.n c', .string ⟨#[]⟩, .int .u16 0] 39)) := (Below.refl _ _).alloc (Nat.le_refl _) _
        by_cases hkm : k < m
        · obtain ⟨gx, ox, x, hB, hgx, hcx⟩ := (hx.keep (hbb.trans (hb1.mono hs0))).at hkm
          subst hB
          have hpx := portN_and x
          have hp2 := portN_lt x
          have hp3 := wrap_u16 _ hp2
          generalize portN x = p at *
          have hW : Below w1.heap.size w1 (w1.alloc (.cells #[.slice A' e.n c', .string ⟨#[]⟩, .int .u16 p] 39)) := (Below.refl _ _).alloc (Nat.le_refl _) _
          have hcx' := (hbx.cell (p := ⟨gx, ox + k, none⟩) hgx).trans hcx
          have hbW := hb1.trans (hW.mono hs1)
          have oW := own_below HO.out hbW
          go_wp2_with ((at_builtin; refine append1 rfl _ _ 40 rfl (w.heap.size) 39 i0 (.agg #[.slice none 0 0, .string ⟨#[]⟩, .int .u16 0]) 3 48 Tryd.underlying40 hi hz0 hz1 hz2 rfl (by decide) _ _ _ rfl (oW) _ _ [.slice A' e.n c', .string ⟨#[]⟩, .int .u16 p] rfl (by simp) rfl rfl (by unfold maxLen; omega) (by omega) (by first | omega | (simp; omega)) ?_))
          intro v3 w3 hown2 hgrow
          obtain ⟨hE3, hb3⟩ := gates_push (p := p) hbb hs0 HO.out HI.out HP.out hW hb1 hgrow
          have he3 : w3.ownsRow w.heap.size 39 3 v3 (es' ++ [(⟨A', e.n, c', e.bs, p⟩ : Gt)]).length (gtCells (es' ++ [(⟨A', e.n, c', e.bs, p⟩ : Gt)])) := by rw [gtCells_append, List.length_append]; exact hown2
          have hall3 : ∀ x ∈ es' ++ [(⟨A', e.n, c', e.bs, p⟩ : Gt)], isLen x.bs.length ∧ x.p < 65536 := fun x hx => by
            rcases List.mem_append.1 hx with hx | hx
            · exact HA.out x hx
            · simp at hx; subst hx; exact ⟨hisl, by show p < 65536; omega⟩
          have hl3 : (es' ++ [(⟨A', e.n, c', e.bs, p⟩ : Gt)]).length ≤ k + 1 := by rw [List.length_append]; simp; omega
          generalize es' ++ [(⟨A', e.n, c', e.bs, p⟩ : Gt)] = es3 at hE3 he3 hall3 hl3
          have G1 := Lib.hid hE3
          have G2 := Lib.hid he3
          have G3 := Lib.hid hall3
          clear hE3 he3 hall3 hown2 hgrow oW HO HI HA HP
          go_wp2
          go_roundw
          case rel => exact ⟨k + 1, es3, by omega, by go_num, G2.out, hl3, G3.out, G1.out, hb3⟩
          case measure => simp [intOf]; omega
        · have hW := hbx
          have hbW := hb1.trans (hW.mono hs1)
          have oW := own_below HO.out hbW
          go_wp2_with ((at_builtin; refine append1 rfl _ _ 40 rfl (w.heap.size) 39 i0 (.agg #[.slice none 0 0, .string ⟨#[]⟩, .int .u16 0]) 3 48 Tryd.underlying40 hi hz0 hz1 hz2 rfl (by decide) _ _ _ rfl (oW) _ _ [.slice A' e.n c', .string ⟨#[]⟩, .int .u16 0] rfl (by simp) rfl rfl (by unfold maxLen; omega) (by omega) (by first | omega | (simp; omega)) ?_))
          intro v3 w3 hown2 hgrow
          obtain ⟨hE3, hb3⟩ := gates_push (p := 0) hbb hs0 HO.out HI.out HP.out hW hb1 hgrow
          have he3 : w3.ownsRow w.heap.size 39 3 v3 (es' ++ [(⟨A', e.n, c', e.bs, 0⟩ : Gt)]).length (gtCells (es' ++ [(⟨A', e.n, c', e.bs, 0⟩ : Gt)])) := by rw [gtCells_append, List.length_append]; exact hown2
          have hall3 : ∀ x ∈ es' ++ [(⟨A', e.n, c', e.bs, 0⟩ : Gt)], isLen x.bs.length ∧ x.p < 65536 := fun x hx => by
            rcases List.mem_append.1 hx with hx | hx
            · exact HA.out x hx
            · simp at hx; subst hx; exact ⟨hisl, by show 0 < 65536; omega⟩
          have hl3 : (es' ++ [(⟨A', e.n, c', e.bs, 0⟩ : Gt)]).length ≤ k + 1 := by rw [List.length_append]; simp; omega
          generalize es' ++ [(⟨A', e.n, c', e.bs, 0⟩ : Gt)] = es3 at hE3 he3 hall3 hl3
          have G1 := Lib.hid hE3
          have G2 := Lib.hid he3
          have G3 := Lib.hid hall3
          clear hE3 he3 hall3 hown2 hgrow oW HO HI HA HP
          go_wp2
          go_roundw
          case rel => exact ⟨k + 1, es3, by omega, by go_num, G2.out, hl3, G3.out, G1.out, hb3⟩
          case measure => simp [intOf]; omega
      · rw [show (e.n == 4 || e.n == 16) = false by simpa using hla]
        have hb01 := hbb.trans (hb0.mono hbb.size)
        have hO2 := Lib.hid (own_below HO.out hb0)
        have hI2 := Lib.hid (HI.out.below hb0)
        go_wp2_with fail
        go_roundw
        case rel => exact ⟨k + 1, es', by omega, by go_num, hO2.out, by omega, HA.out, hI2.out, hb01⟩
        case measure => simp [intOf]; omega
    · have hkn : k = n := by omega
      subst hkn
      go_wp2
      go_returns
      obtain ⟨A', c', rfl⟩ := own_slice HO.out
      exact ⟨_, rfl, ⟨A', _, c', es', rfl, HO.out, rfl, hlen, HA.out, HI.out⟩, hbb⟩
theorem gates_c (A : Option Addr) (n c : Nat) (es : List En) (B : Option Addr) (m d : Nat) (xs : List Int) (w : World) (hl : RS w A n es) (hn : n ≤ 1099511627776) (hx : RI w B m xs) :
    Calls Tryd.prog 18 #[.slice A n c, .slice none 0 0, .slice B m d] w fun e w' => ∃ v, e = .returned v ∧ GatesT w.heap.size n v w' ∧ Below w.heap.size w w' := by
  by_cases h0 : n = 0
  · subst h0
    exact gates_none A c B m d w
  · obtain ⟨g, o, rfl, _⟩ := hl.2.1 (by rw [List.length_map, hl.1]; omega)
    exact gates_some g o n c es B m d xs w hl hn hx
end Go.Proofs.YtocckokbdacdfaaDoor
