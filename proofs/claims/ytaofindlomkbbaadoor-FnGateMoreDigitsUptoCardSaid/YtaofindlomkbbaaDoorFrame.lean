/-
  From the form of the claim to the walks: what the listed variables give; arguments that are slices of bytes and lists of them.
-/
import Derived.Test.YtaofindlomkbbaaDoorPlaces
import Derived.Test.YtaofindlomkbbaaDoorCards
import Derived.Test.YtaofindlomkbbaaDoorTie
import Derived.ProofKit
import Derived.OpenShut
import Derived.Lay
import Derived.MakeChecks
import Derived.Deep.Matrix
import Derived.Deep.DeepHandedRow
import Derived.Deep.DeepWitnessRowRef
namespace Go.Proofs.YtaofindlomkbbaaDoor
open Go Go.RowKit Go.ChangeShapes Go.WideShapes Go.ChangeAt Go.Deep
theorem own : ownKnob Tryd.prog.godebug = none := by kernel_rfl
theorem cellsH : Tryd.prog.cellsOf 52 = 1 := by kernel_rfl
theorem cellsP : Tryd.prog.cellsOf 50 = 1 := by kernel_rfl
theorem cellsD : Tryd.prog.cellsOf 112 = 2 := by kernel_rfl
theorem cells8 : Tryd.prog.cellsOf 5 = 1 := by kernel_rfl
theorem cellsB : Tryd.prog.cellsOf 22 = 1 := by kernel_rfl
theorem undH : ∃ f0, Tryd.prog.underlying 52 = some (.struct #[f0]) ∧ f0.type = 50 ∧ f0.offset = 0 := ⟨_, Tryd.underlying52, rfl, rfl⟩
theorem undD : ∃ f0 f1, Tryd.prog.underlying 112 = some (.struct #[f0, f1]) ∧ f0.type = 4 ∧ f0.offset = 0 ∧ f1.type = 9 ∧ f1.offset = 1 := ⟨_, _, Tryd.underlying112, rfl, rfl, rfl, rfl⟩
theorem spot_of {w : World} {a : Addr} {v : Value} (h : w.cell? a = some v) : a.spot = none := by
  unfold World.cell? at h
  obtain ⟨b, o, s⟩ := a
  cases s with
  | none => rfl
  | some x => split at h <;> simp_all
theorem add_none (b o n : Nat) : (⟨b, o, none⟩ : Addr).add n = ⟨b, o + n, none⟩ := by unfold Addr.add; split <;> simp_all
/-- A handle that leads to a detail. -/
theorem handle_some {H : Type} {enc : TypeId × Value → H} {w : World} {fuel : Nat} {cs : List Value} {b : Bool} {p : List MemPlace}
    (h : DataW.trod enc Tryd.prog w 0 (fun _ => true) false fuel 52 cs = some (.agg [.ptr (.agg [.lit (.bool b), .lit (.string [])])], p)) :
    ∃ g o, cs = [.pointer (some ⟨g, o, none⟩)] ∧ w.cell? ⟨g, o, none⟩ = some (.bool b) ∧ w.cell? ⟨g, o + 1, none⟩ = some (.string ⟨#[]⟩) ∧ MemPlace.cell g o ∈ p := by
  obtain ⟨f0, hu, ht, ho⟩ := undH
  obtain ⟨y0, n, hx, hl, h0⟩ := trod_struct1 hu h
  rw [ht, ho, cellsP] at h0
  rw [cellsH] at hl
  match cs, hl with
  | [c], _ =>
    simp only [List.drop_zero, List.take_succ_cons, List.take_zero] at h0
    simp only [Prod.mk.injEq, DataW.agg.injEq, List.cons.injEq, and_true] at hx
    rcases DataW.trod_pointer und52 h0 with ⟨_, hy⟩ | ⟨a, cs', y, m, _, hc, hy, hcells, hd⟩
    · rw [hy] at hx; simp at hx
    · rw [hy] at hx
      simp only [DataW.ptr.injEq] at hx
      obtain ⟨g0, g1, hu2, t0, o0, t1, o1⟩ := undD
      obtain ⟨y1, y2, m', hz, hl2, hb, hs⟩ := trod_struct2 hu2 hd
      obtain ⟨_, hlen, hat⟩ := World.cells?_some hcells
      rw [cellsD] at hl2 hat
      rw [hz] at hx
      simp only [DataW.agg.injEq, List.cons.injEq, and_true] at hx
      rw [t0, o0, show Tryd.prog.cellsOf 4 = 1 by kernel_rfl] at hb
      rw [t1, o1, show Tryd.prog.cellsOf 9 = 1 by kernel_rfl] at hs
      match cs', hl2 with
      | [u0, u1], _ =>
        simp only [List.drop_zero, List.take_succ_cons, List.take_zero, List.drop_succ_cons] at hb hs
        obtain ⟨b', e1, e2⟩ := DataW.trod_bool Tryd.underlying4 hb
        obtain ⟨s', e3, e4, _⟩ := DataW.trod_string Tryd.underlying9 hs
        have hb' : b = b' := by have := hx.1.1; rw [e2] at this; simpa using this
        have hs' : s'.data.toList = [] := by have := hx.1.2; rw [e4] at this; simpa using this.symm
        have hs2 : s' = ⟨#[]⟩ := by
          obtain ⟨⟨l⟩⟩ := s'
          simp at hs'
          subst hs'
          rfl
        have h0 := hat 0 (by omega)
        have h1 := hat 1 (by omega)
        simp at e1 e3
        subst e1 e3 hb' hs2
        have hsp : a.spot = none := spot_of (a := a) (by simpa [Addr.add] using h0)
        obtain ⟨g, o, s⟩ := a
        simp at hsp
        subst hsp
        rw [add_none] at h0 h1
        refine ⟨g, o, hc, by simpa using h0, by simpa using h1, ?_⟩
        have hp := hx.2
        rw [hp]
        rw [cellsD]
        simp [MemPlace.row, List.range_succ]
theorem handle_none {H : Type} {enc : TypeId × Value → H} {w : World} {fuel : Nat} {cs : List Value} {p : List MemPlace}
    (h : DataW.trod enc Tryd.prog w 0 (fun _ => true) false fuel 52 cs = some (.agg [.nil], p)) : cs = [.pointer none] := by
  obtain ⟨f0, hu, ht, ho⟩ := undH
  obtain ⟨y0, n, hx, hl, h0⟩ := trod_struct1 hu h
  rw [ht, ho, cellsP] at h0
  rw [cellsH] at hl
  match cs, hl with
  | [c], _ =>
    simp only [List.drop_zero, List.take_succ_cons, List.take_zero] at h0
    simp only [Prod.mk.injEq, DataW.agg.injEq, List.cons.injEq, and_true] at hx
    rcases DataW.trod_pointer und52 h0 with ⟨hc, _⟩ | ⟨a, cs', y, m, _, hc, hy, hcells, hd⟩
    · exact hc
    · rw [hy] at hx; simp at hx
theorem gz4 : Tryd.prog.globalNamed "net/netip.z4" = some 1 := by kernel_rfl
theorem gz6 : Tryd.prog.globalNamed "net/netip.z6noz" = some 2 := by kernel_rfl
theorem gz0 : Tryd.prog.globalNamed "net/netip.z0" = some 0 := by kernel_rfl
theorem tz4 : (Tryd.prog.globals[(1 : Nat)]?).map (·.type) = some 52 := by kernel_rfl
theorem tz6 : (Tryd.prog.globals[(2 : Nat)]?).map (·.type) = some 52 := by kernel_rfl
theorem tz0 : (Tryd.prog.globals[(0 : Nat)]?).map (·.type) = some 52 := by kernel_rfl
theorem startSize : 16 < (begin Tryd.prog (fun _ _ => 0) default).world.heap.size := by
  have h : decide (16 < (begin Tryd.prog (fun _ _ => 0) default).world.heap.size) = true := by kernel_rfl
  exact of_decide_eq_true h
def laid3 : List (String × DataW Unit) := [("net/netip.z4", Rows.laid_net_netip_z4), ("net/netip.z6noz", Rows.laid_net_netip_z6noz), ("net/netip.z0", Rows.laid_net_netip_z0)]
theorem zs_of_laid {W : World} (h : laidMetH Tryd.prog laid3 W) (hsh : W.ShapedOpen Tryd.prog) : ∃ z, Zs W z := by
  rw [MakeChecks.laidMetH_plain _ _ _ (by kernel_rfl)] at h
  obtain ⟨ps, hv, hnd, hpl⟩ := h
  obtain ⟨g, t, cs, fuel, p, q, hg, ht, hvar, htr, hrest, hps⟩ := hv
  obtain ⟨g', t', cs', fuel', p', q', hg', ht', hvar', htr', hrest', hps'⟩ := hrest
  obtain ⟨g'', t'', cs'', fuel'', p'', q'', hg'', ht'', hvar'', htr'', hrest'', hps''⟩ := hrest'
  obtain rfl := Option.some.inj (gz4.symm.trans hg)
  obtain rfl := Option.some.inj (gz6.symm.trans hg')
  obtain rfl := Option.some.inj (gz0.symm.trans hg'')
  obtain rfl := Option.some.inj (tz4.symm.trans ht)
  obtain rfl := Option.some.inj (tz6.symm.trans ht')
  obtain rfl := Option.some.inj (tz0.symm.trans ht'')
  obtain ⟨b4, o4, e4, c4, d4, m4⟩ := handle_some htr
  obtain ⟨b6, o6, e6, c6, d6, m6⟩ := handle_some htr'
  have e0 := handle_none htr''
  have v4 := World.var?_cell gz4 hvar 0
  have v6 := World.var?_cell gz6 hvar' 0
  have v0 := World.var?_cell gz0 hvar'' 0
  have a4 : cs = #[.pointer (some ⟨b4, o4, none⟩)] := by cases cs; simpa using e4
  have a6 : cs' = #[.pointer (some ⟨b6, o6, none⟩)] := by cases cs'; simpa using e6
  have a0 : cs'' = #[.pointer none] := by cases cs''; simpa using e0
  subst a4 a6 a0
  have in4 : MemPlace.cell b4 o4 ∈ ps := by rw [hps]; simp [m4]
  have in6 : MemPlace.cell b6 o6 ∈ q := by rw [hps']; simp [m6]
  have in6' : MemPlace.cell b6 o6 ∈ ps := by rw [hps]; simp [in6]
  have hne : ¬ (b4 = b6 ∧ o4 = o6) := by
    rintro ⟨rfl, rfl⟩
    rw [hps, List.nodup_append] at hnd
    exact hnd.2.2 _ (by simp [m4]) _ in6 rfl
  obtain ⟨⟨_, _, hp4⟩, _⟩ := hpl _ _ in4
  obtain ⟨⟨_, _, hp6⟩, _⟩ := hpl _ _ in6'
  have hsz : 6 < W.heap.size := by
    obtain ⟨o, _, ho, _⟩ := hsh.2 16 (of_decide_eq_true (show decide (Tryd.prog.globals.size ≤ 16) = true by kernel_rfl)) startSize
    have := (Array.getElem?_eq_some_iff.1 ho).1
    omega
  refine ⟨⟨b4, o4, b6, o6⟩, hsz, by simpa using v4, by simpa using v6, by simpa using v0, ?_, ?_, plainAt_mk hp4, plainAt_mk hp6, c4, d4, c6, d6⟩
  · simp [apart2]; omega
  · simp [apart2]; omega
theorem u8_of_wf {n : Int} (h : (Lit.int .u8 n).wf = true) : 0 ≤ n ∧ n < 256 := by
  simp [Lit.wf, IntKind.min, IntKind.max, IntKind.signed, IntKind.bits] at h
  omega
def toB (n : Int) : UInt8 := n.toNat.toUInt8
theorem toB_eq {n : Int} (h : 0 ≤ n ∧ n < 256) : ((toB n).toNat : Int) = n := by
  unfold toB
  rw [Nat.toUInt8, UInt8.toNat_ofNat']
  omega
/-- A slice of bytes out of its numbers. -/
theorem rb_of {w : World} {A : Option Addr} {L C : Nat} {Z : List Int} (hl : L ≤ C) (hz : Z.length = C) (hw : ∀ n ∈ Z, (Lit.int .u8 n).wf = true) (hnil : A = none → C = 0)
    (hc : ∀ a', A = some a' → ∀ c, c < C → w.cell? (a'.add c) = some (.int .u8 (Z.getD c 0))) : RB w A L ((Z.take L).map toB) := by
  refine ⟨by simp; omega, fun hn => ?_⟩
  rcases A with _ | ⟨g, o, s⟩
  · have := hnil rfl; omega
  · have h0 := hc _ rfl 0 (by omega)
    have hs : s = none := spot_of (a := ⟨g, o, s⟩) (by simpa [Addr.add] using h0)
    subst hs
    refine ⟨g, o, rfl, World.block_lt_of_cell? w _ (by simpa [Addr.add] using h0), fun i hi => ?_⟩
    have h1 := hc _ rfl i (by omega)
    rw [add_none] at h1
    rw [h1]
    have hi' : i < Z.length := by omega
    have hwf := u8_of_wf (hw Z[i] (List.getElem_mem hi'))
    have e1 : ((Z.take L).map toB).getD i 0 = toB Z[i] := by
      simp [List.getD, hi, hi']
    rw [e1, toB_eq hwf]
    simp [List.getD, hi']
theorem trodAll_below {H : Type} {enc : TypeId × Value → H} {P : Program} (hlo : laidOutB P = true) {W W' : World} (hb : Below W.heap.size W W') (ts : List TypeId) : ∀ (vs : List Value) (ds : List (DataW H)) (ps : List MemPlace),
    (ts.all fun t => P.readableRec t && decide (t < P.types.size)) = true → DataW.TrodAll enc P W 0 (fun _ => true) true ts vs ds ps → (∀ x ∈ ps, x.block < W.heap.size) →
    DataW.TrodAll enc P W' 0 (fun b => decide (b < W.heap.size)) true ts vs ds ps := by
  induction ts with
  | nil =>
    intro vs ds ps _ h _
    obtain ⟨rfl, rfl, rfl⟩ := trodAll_nil h
    exact trodAll_mk0
  | cons t ts ih =>
    intro vs ds ps ht h hlt
    simp only [List.all_cons, Bool.and_eq_true, decide_eq_true_eq] at ht
    obtain ⟨v0, vs0, d0, ds0, p0, q0, rfl, rfl, rfl, h0, r0⟩ := trodAll_cons h
    exact trodAll_cons_mk (Below.trod hlo ht.1.1 ht.1.2 h0 hb (fun x hx => hlt x (List.mem_append_left _ hx))) (ih vs0 ds0 q0 (by simpa using ht.2) r0 (fun x hx => hlt x (List.mem_append_right _ hx)))
end Go.Proofs.YtaofindlomkbbaaDoor
