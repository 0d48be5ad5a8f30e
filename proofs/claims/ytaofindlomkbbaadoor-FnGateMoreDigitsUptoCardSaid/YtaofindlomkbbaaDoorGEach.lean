/-
  Contract: ParsePortEach.
-/
import Derived.Test.YtaofindlomkbbaaDoorGFrom
namespace Go.Proofs.YtaofindlomkbbaaDoor
open Go Go.RowKit
/-- What a text reads as: nothing, or an address with a port. -/
abbrev GOut := Option (List UInt8 × Nat)
def GOut.bs : GOut → List UInt8
  | none => []
  | some p => p.1
def GOut.u : GOut → Nat
  | none => 0
  | some p => p.2
def GOut.ok : GOut → Bool
  | none => false
  | some _ => true
/-- What ParseAddrPort answers. -/
def GpOut (z : ZP) (o : GOut) (e : Ending) : Prop :=
  match o with
  | none => PPErr e
  | some p => e = .returned (.tuple #[.agg #[.int .u64 (adOf p.1).h, .int .u64 (adOf p.1).l, .pointer (z.ptr (adOf p.1).k), .int .u16 p.2], .nilIface])
/-- A text reads as o, in every world behind w0. -/
def GReads (z : ZP) (w0 : World) (t : ByteArray) (o : GOut) : Prop :=
  (∀ p, o = some p → isLen p.1.length ∧ p.2 < 65536) ∧ ∀ w, Below w0.heap.size w0 w → Calls Tryd.prog 17 #[.string t] w fun e w' => GpOut z o e ∧ Below w.heap.size w w'
/-- An address with a port in a list: its slice value, its bytes, the port. The zone is empty. -/
structure Gt where
  a : Option Addr
  n : Nat
  c : Nat
  bs : List UInt8
  p : Nat
def Gt.cells (e : Gt) : List Value := [.slice e.a e.n e.c, .string ⟨#[]⟩, .int .u16 e.p]
def gtCells (es : List Gt) : List Value := es.flatMap Gt.cells
theorem gtCells_len (es : List Gt) : (gtCells es).length = es.length * 3 := by
  induction es with
  | nil => rfl
  | cons x r ih => simp only [gtCells, List.flatMap_cons, List.length_append, List.length_cons] at *; simp only [Gt.cells, List.length_cons, List.length_nil]; omega
theorem gtCells_append (es fs : List Gt) : gtCells (es ++ fs) = gtCells es ++ gtCells fs := by simp [gtCells]
theorem gtCells_get (es : List Gt) (i : Nat) (hi : i < es.length) : (gtCells es)[i * 3]? = some (.slice es[i].a es[i].n es[i].c) ∧ (gtCells es)[i * 3 + 1]? = some (.string ⟨#[]⟩) ∧ (gtCells es)[i * 3 + 2]? = some (.int .u16 es[i].p) := by
  induction es generalizing i with
  | nil => simp at hi
  | cons x r ih =>
    cases i with
    | zero => exact ⟨rfl, rfl, rfl⟩
    | succ i =>
      have := ih i (by simpa using hi)
      have e1 : (i + 1) * 3 = i * 3 + 3 := by omega
      simp only [e1, gtCells, List.flatMap_cons, Gt.cells, List.cons_append, List.nil_append, List.getElem_cons_succ] at this ⊢
      exact ⟨this.1, this.2.1, this.2.2⟩
/-- A list of addresses with ports that can be read. -/
def RG (w : World) (A : Option Addr) (n : Nat) (es : List Gt) : Prop :=
  es.length = n ∧ RC w A (gtCells es) ∧ ∀ e ∈ es, RB w e.a e.n e.bs
theorem RG.keep {w w' : World} {A : Option Addr} {n : Nat} {es : List Gt} (h : RG w A n es) (hb : Below w.heap.size w w') : RG w' A n es :=
  ⟨h.1, h.2.1.keep hb, fun e he => (h.2.2 e he).keep hb⟩
theorem RG.at {w : World} {A : Option Addr} {n : Nat} {es : List Gt} (h : RG w A n es) {i : Nat} (hi : i < n) :
    ∃ g o e, A = some ⟨g, o, none⟩ ∧ g < w.heap.size ∧ es[i]? = some e ∧ w.cell? ⟨g, o + i * 3, none⟩ = some (.slice e.a e.n e.c) ∧ w.cell? ⟨g, o + i * 3 + 1, none⟩ = some (.string ⟨#[]⟩) ∧ w.cell? ⟨g, o + i * 3 + 2, none⟩ = some (.int .u16 e.p) ∧ RB w e.a e.n e.bs := by
  have hl : i < es.length := by rw [h.1]; exact hi
  obtain ⟨g, o, hA, hg, hc⟩ := h.2.1 (by rw [gtCells_len]; omega)
  have he := gtCells_get es i hl
  exact ⟨g, o, es[i], hA, hg, List.getElem?_eq_getElem hl, hc _ _ he.1, hc _ _ he.2.1, hc _ _ he.2.2, h.2.2 _ (List.getElem_mem hl)⟩
def ownGt (w : World) (B : Nat) (es : List Gt) : Prop := ∀ e ∈ es, ∃ t, byteTag t ∧ w.ownsRow B t 1 (.slice e.a e.n e.c) e.n (Lib.byteCells e.bs)
theorem ownGt.below {w w' : World} {B : Nat} {es : List Gt} (h : ownGt w B es) (hb : Below w.heap.size w w') : ownGt w' B es := fun e he => by
  obtain ⟨t, h1, h2⟩ := h e he
  exact ⟨t, h1, own_below h2 hb⟩
theorem ownGt.grown {w w' : World} {B b2 : Nat} {e2 : TypeId} {s2 : Nat} {v2 : Value} {n2 : Nat} {x2 : List Value} {es : List Gt} (h : ownGt w B es) (h2 : w.ownsRow b2 e2 s2 v2 n2 x2) (hne : ∀ t, byteTag t → t ≠ e2) (hg : w.grownBy w' v2.ownBlock) : ownGt w' B es := fun e he => by
  obtain ⟨t, ht, ho⟩ := h e he
  exact ⟨t, ht, ho.kept hg (own_ne ho h2 (hne t ht))⟩
theorem tag_port : ∀ t, byteTag t → t ≠ 30 := fun _ ht => ht.ne (by decide) (by decide) (by decide)
theorem tag_bool : ∀ t, byteTag t → t ≠ 4 := fun _ ht => ht.ne (by decide) (by decide) (by decide)
def Gt.is (e : Gt) : List UInt8 × Nat := (e.bs, e.p)
def GOut.is (o : GOut) : List UInt8 × Nat := (o.bs, o.u)
def okCells (os : List GOut) : List Value := os.map fun o => .bool o.ok
theorem infoPort : (Tryd.prog.info? 30).map (fun i => (i.zero, i.size, i.bytes)) = some (some (.agg #[.slice none 0 0, .string ⟨#[]⟩, .int .u16 0]), 3, 48) := by kernel_rfl
/-- What ParsePortEach hands back. -/
def GEachPost (w : World) (os : List GOut) (e : Ending) (w' : World) : Prop :=
  ∃ A c es A2 c2, e = .returned (.tuple #[.slice A es.length c, .slice A2 os.length c2]) ∧ w'.ownsRow w.heap.size 30 3 (.slice A es.length c) es.length (gtCells es) ∧ w'.ownsRow w.heap.size 4 1 (.slice A2 os.length c2) os.length (okCells os) ∧ es.map Gt.is = os.map GOut.is ∧ ownGt w' w.heap.size es ∧ Below w.heap.size w w'
/-- Texts that can be read. -/
def RT (w : World) (A : Option Addr) (n : Nat) (ts : List ByteArray) : Prop := ts.length = n ∧ RC w A (ts.map Value.string)
theorem RT.keep {w w' : World} {A : Option Addr} {n : Nat} {ts : List ByteArray} (h : RT w A n ts) (hb : Below w.heap.size w w') : RT w' A n ts := ⟨h.1, h.2.keep hb⟩
theorem RT.at {w : World} {A : Option Addr} {n : Nat} {ts : List ByteArray} (h : RT w A n ts) {i : Nat} (hi : i < n) : ∃ g o t, A = some ⟨g, o, none⟩ ∧ g < w.heap.size ∧ ts[i]? = some t ∧ w.cell? ⟨g, o + i, none⟩ = some (.string t) := by
  have hl : i < ts.length := by rw [h.1]; exact hi
  obtain ⟨g, o, hA, hg, hc⟩ := h.2 (by rw [List.length_map]; omega)
  exact ⟨g, o, ts[i], hA, hg, List.getElem?_eq_getElem hl, hc i _ (by simp [hl])⟩
/-- The worlds between the two appends of a round. -/
theorem geach_push1 {w w1 w2 : World} {B : Nat} {v v2 : Value} {j : Nat} {cs : List Value} {es : List Gt} {xs : List Value} {e : Gt} (hB : B = w.heap.size) (hb1 : Below B w w1) (ho : w1.ownsRow B 30 3 v es.length (gtCells es)) (ho2 : w1.ownsRow B 4 1 v2 j xs) (hi : ownGt w1 B (es ++ [e]))
    (hg : (w1.alloc (.cells cs.toArray 30)).grownBy w2 v.ownBlock) : Below B w w2 ∧ w2.ownsRow B 4 1 v2 j xs ∧ ownGt w2 B (es ++ [e]) := by
  have hs : B ≤ w1.heap.size := by rw [hB]; exact (hB ▸ hb1).size
  have hxa : Below w1.heap.size w1 (w1.alloc (.cells cs.toArray 30)) := (Below.refl _ _).alloc (Nat.le_refl _) _
  have hoa := own_below ho hxa
  exact ⟨(hb1.trans (hxa.mono hs)).grown hg (Nat.le_trans hs hxa.size) (own_row_ge ho), (own_below ho2 hxa).kept hg (own_ne (own_below ho2 hxa) hoa (by decide)), (hi.below hxa).grown hoa tag_port hg⟩
theorem geach_push2 {w w1 w2 : World} {B : Nat} {v v2 : Value} {j : Nat} {cs : List Value} {n : Nat} {ys xs : List Value} {es : List Gt} (hB : B = w.heap.size) (hb1 : Below B w w1) (ho : w1.ownsRow B 30 3 v n ys) (ho2 : w1.ownsRow B 4 1 v2 j xs) (hi : ownGt w1 B es)
    (hg : (w1.alloc (.cells cs.toArray 4)).grownBy w2 v2.ownBlock) : Below B w w2 ∧ w2.ownsRow B 30 3 v n ys ∧ ownGt w2 B es := by
  have hs : B ≤ w1.heap.size := by rw [hB]; exact (hB ▸ hb1).size
  have hxa : Below w1.heap.size w1 (w1.alloc (.cells cs.toArray 4)) := (Below.refl _ _).alloc (Nat.le_refl _) _
  have hoa := own_below ho2 hxa
  exact ⟨(hb1.trans (hxa.mono hs)).grown hg (Nat.le_trans hs hxa.size) (own_row_ge ho2), (own_below ho hxa).kept hg (own_ne (own_below ho hxa) hoa (by decide)), (hi.below hxa).grown hoa tag_bool hg⟩
theorem geach_start (w : World) : ((w.alloc (.cells #[] 30)).alloc (.cells #[] 4)).ownsRow w.heap.size 30 3 (.slice (some ⟨w.heap.size, 0, none⟩) 0 0) 0 [] ∧ ((w.alloc (.cells #[] 30)).alloc (.cells #[] 4)).ownsRow w.heap.size 4 1 (.slice (some ⟨w.heap.size + 1, 0, none⟩) 0 0) 0 [] ∧ Below w.heap.size w ((w.alloc (.cells #[] 30)).alloc (.cells #[] 4)) := by
  have h1 : (w.alloc (.cells #[] 30)).ownsRow w.heap.size 30 3 (.slice (some ⟨w.heap.size, 0, none⟩) 0 0) 0 [] := own_lit w #[] _ 3 0 _ (Nat.le_refl _) rfl (by omega)
  have hs : (w.alloc (.cells #[] 30)).heap.size = w.heap.size + 1 := by simp
  have h2 := own_lit (w.alloc (.cells #[] 30)) #[] 4 1 0 w.heap.size (by omega) rfl (by omega)
  rw [hs] at h2
  exact ⟨own_below h1 ((Below.refl _ _).alloc (Nat.le_refl _) _), h2, ((Below.refl _ _).alloc (Nat.le_refl _) _).alloc (by omega) _⟩
set_option maxRecDepth 100000 in
set_option maxHeartbeats 8000000 in
theorem portEach_c (A : Option Addr) (n c : Nat) (ts : List ByteArray) (os : List GOut) (z : ZP) (w : World) (hz : Zs w z) (ht : RT w A n ts) (ho : os.length = n) (hr : ∀ (i : Nat) t o, ts[i]? = some t → os[i]? = some o → GReads z w t o) (hn : n ≤ 1099511627776) :
    Calls Tryd.prog 11 #[.slice A n c] w (GEachPost w os) := by
  obtain ⟨i0, hi, hz0, hz1, hz2⟩ := info_parts infoPort
  obtain ⟨i1, hi1, hz01, hz11, hz21⟩ := info_parts infoBool
  obtain ⟨B, hB⟩ : ∃ B, B = w.heap.size := ⟨_, rfl⟩
  have HB := Lib.hid hB
  have HS := Lib.hid (geach_start w)
  rw [← hB] at HS
  unfold GEachPost
  rw [← hB]
  clear hB
  go_enter Tryd.func11, Tryd.ntmps11
  go_wp2_with fail
  go_loopw [4, 5, 15] (fun v v2 i wr => ∃ (j : Nat) (es' : List Gt), j ≤ n ∧ i = .int .i64 j ∧ Hid (wr.ownsRow B 30 3 v es'.length (gtCells es')) ∧ Hid (wr.ownsRow B 4 1 v2 j (okCells (os.take j))) ∧ es'.length = j ∧ Hid (es'.map Gt.is = (os.take j).map GOut.is) ∧ Hid (ownGt wr B es') ∧ Hid (Below B w wr)) (fun _ _ i _ => n - (intOf i).toNat)
  case atStart =>
    rw [← HB.out]
    exact ⟨0, [], Nat.zero_le _, rfl, Lib.hid HS.out.1, Lib.hid HS.out.2.1, rfl, Lib.hid rfl, Lib.hid (fun e he => (by simp at he)), Lib.hid HS.out.2.2⟩
  case round =>
    obtain ⟨j, es', hj, rfl, HO, HO2, hlj, HM, HI, HBB⟩ := hrel
    by_cases hlt : j < n
    · have hbb := HBB.out
      rw [HB.out] at hbb
      obtain ⟨g1, p1, t, hA, hg1, htj, hct⟩ := (ht.keep hbb).at hlt
      subst hA
      obtain ⟨o, hoj⟩ : ∃ o, os[j]? = some o := ⟨_, List.getElem?_eq_getElem (by omega)⟩
      have hrd := hr j t o htj hoj
      have htk : os.take (j + 1) = os.take j ++ [o] := by rw [List.take_add_one, hoj, Option.toList_some]
      have HT := Lib.hid htk
      have HRD := Lib.hid hrd
      have Hbb := Lib.hid hbb
      clear htk htj hoj hrd hbb
      go_wp2_with fail
      refine (HRD.out.2 wr Hbb.out).mono ?_
      rintro e1 w2 ⟨hpf, hb2⟩
      have HO_2 := Lib.hid (own_below HO.out hb2)
      have HO2_2 := Lib.hid (own_below HO2.out hb2)
      have HI_2 := Lib.hid (HI.out.below hb2)
      have HBB_2 := Lib.hid (Hbb.out.trans (hb2.mono Hbb.out.size))
      have HRD1 := Lib.hid HRD.out.1
      clear hb2 hct HO HO2 HI HBB Hbb HRD
      cases o with
      | none =>
        obtain ⟨tt, pp, rfl⟩ := hpf
        have hX := boxes2 (x0 := #[.int .u64 0, .int .u64 0, .pointer none, .int .u16 0]) (x1 := #[.slice none 0 0, .string ⟨#[]⟩, .int .u16 0]) w2 56 30
        have b1 := hX.b1
        have HX := Lib.hid hX
        clear hX
        go_upto_region 9 with fail
        generalize (w2.alloc (.cells #[.int .u64 0, .int .u64 0, .pointer none, .int .u16 0] 56)).alloc (.cells #[.slice none 0 0, .string ⟨#[]⟩, .int .u16 0] 30) = w6 at *
        have hbs2 := HBB_2.out.size
        have HOw := Lib.hid (own_below HO_2.out HX.out.below)
        have HO2w := Lib.hid (own_below HO2_2.out HX.out.below)
        have HIw := Lib.hid (HI_2.out.below HX.out.below)
        have HBBw := Lib.hid (HBB_2.out.trans (HX.out.below.mono hbs2))
        clear HO_2 HO2_2 HI_2 HBB_2 HX hbs2
        have hE : ownGt w6 B (es' ++ [(⟨none, 0, 0, [], 0⟩ : Gt)]) := fun y hy => by
          rcases List.mem_append.1 hy with hy | hy
          · exact HIw.out y hy
          · simp at hy; subst hy; exact ⟨5, Or.inl rfl, World.ownsRow_nil _ _ _ _⟩
        have hm3 : (es' ++ [(⟨none, 0, 0, [], 0⟩ : Gt)]).map Gt.is = (os.take (j + 1)).map GOut.is := by rw [HT.out, List.map_append, List.map_append, HM.out]; rfl
        have hok : okCells (os.take (j + 1)) = okCells (os.take j) ++ [.bool false] := by rw [HT.out]; unfold okCells; rw [List.map_append]; rfl
        have hl3 : (es' ++ [(⟨none, 0, 0, [], 0⟩ : Gt)]).length = j + 1 := by rw [List.length_append, hlj]; rfl
        have hbw := HBBw.out.size
        have how := HOw.out
        have hE1 := Lib.hid hE
        have HM3 := Lib.hid hm3
        have HOK := Lib.hid hok
        have HL3 := Lib.hid hl3
        clear hE hm3 hok hl3
        rw [← HB.out] at hbw
        go_wp2_with ((at_builtin; refine append1 rfl _ _ 33 rfl (B) 30 i0 (.agg #[.slice none 0 0, .string ⟨#[]⟩, .int .u16 0]) 3 48 Tryd.underlying33 hi hz0 hz1 hz2 rfl (by decide) _ _ _ rfl (how) _ _ [.slice none 0 0, .string ⟨#[]⟩, .int .u16 0] rfl (by simp) rfl rfl (by unfold maxLen; omega) (by omega) (by first | omega | (simp; omega)) ?_))
        intro v3 w3 hown3 hgr3
        obtain ⟨hb3, ho23, hE3⟩ := geach_push1 (cs := [.slice none 0 0, .string ⟨#[]⟩, .int .u16 0]) HB.out (HB.out.symm ▸ HBBw.out) how HO2w.out hE1.out hgr3
        have he3 : w3.ownsRow B 30 3 v3 (es' ++ [(⟨none, 0, 0, [], 0⟩ : Gt)]).length (gtCells (es' ++ [(⟨none, 0, 0, [], 0⟩ : Gt)])) := by rw [gtCells_append, List.length_append, hlj]; exact hown3
        have hbs3 : B ≤ w3.heap.size := by rw [HB.out]; exact (HB.out ▸ hb3).size
        generalize es' ++ [(⟨none, 0, 0, [], 0⟩ : Gt)] = es3 at *
        have HB3 := Lib.hid hb3
        have HE3 := Lib.hid hE3
        have HO3 := Lib.hid he3
        clear hown3 hgr3 hb3 hE3 he3 hE1 how HOw HO2w HIw HBBw hbw
        go_wp2_with ((at_builtin; refine append1 rfl _ _ 34 rfl (B) 4 i1 (.bool false) 1 1 Tryd.underlying34 hi1 hz01 hz11 hz21 rfl (by decide) _ _ _ rfl (ho23) _ _ [.bool false] rfl (by simp) rfl rfl (by unfold maxLen; omega) (by omega) (by first | omega | (simp; omega)) ?_))
        intro v4 w4 hown4 hgr4
        obtain ⟨hb4, ho4, hE4⟩ := geach_push2 (cs := [.bool false]) HB.out HB3.out HO3.out ho23 HE3.out hgr4
        rw [← HOK.out] at hown4
        have G1 := Lib.hid hb4
        have G2 := Lib.hid ho4
        have G3 := Lib.hid hE4
        have G4 := Lib.hid hown4
        clear hb4 ho4 hE4 hown4 hgr4 ho23 HB3 HO3 HE3
        go_wp2
        go_roundw
        case rel => exact ⟨j + 1, es3, by omega, by go_num, G2, G4, HL3.out, HM3, G3, G1⟩
        case measure => simp [intOf]; omega
      | some p =>
        obtain rfl : e1 = _ := hpf
        obtain ⟨bs, u⟩ := p
        obtain ⟨hl, hu⟩ := HRD1.out _ rfl
        have hX := boxes2 (x0 := #[.int .u64 (adOf bs).h, .int .u64 (adOf bs).l, .pointer (z.ptr (adOf bs).k), .int .u16 u]) (x1 := #[.slice none 0 0, .string ⟨#[]⟩, .int .u16 0]) w2 56 30
        have b0 := hX.b0
        have HX := Lib.hid hX
        clear hX
        go_upto_region 8 with fail
        have hs4 : ((w2.alloc (.cells #[.int .u64 (adOf bs).h, .int .u64 (adOf bs).l, .pointer (z.ptr (adOf bs).k), .int .u16 u] 56)).alloc (.cells #[.slice none 0 0, .string ⟨#[]⟩, .int .u16 0] 30)).heap.size = w2.heap.size + 2 := by simp
        generalize (w2.alloc (.cells #[.int .u64 (adOf bs).h, .int .u64 (adOf bs).l, .pointer (z.ptr (adOf bs).k), .int .u16 u] 56)).alloc (.cells #[.slice none 0 0, .string ⟨#[]⟩, .int .u16 0] 30) = w4 at *
        go_wp2_with fail
        refine (fromPort_c bs u z w4 (hz.keep (HB.out ▸ HBB_2.out.trans (HX.out.below.mono HBB_2.out.size))) hl).mono ?_
        rintro e5 w5 ⟨v5, rfl, ⟨A5, c5, t5, rfl, ht5, hO5⟩, hb5⟩
        have hX5 := HX.out.keep hb5
        have b1 := hX5.b1
        have f1 := hX5.f1
        have HX5 := Lib.hid hX5
        have HO5 := Lib.hid hO5
        clear hX5 HX b0 hb5 hO5
        go_upto_region 9 with fail
        have hX6 : Boxes w2 [_, #[.slice A5 bs.length c5, .string ⟨#[]⟩, .int .u16 u]] _ := ((HX5.out.put 1 _ rfl 0 (.slice A5 bs.length c5)).put 1 _ rfl 1 (.string ⟨#[]⟩)).put 1 _ rfl 2 (.int .u16 u)
        have hO6 := ownsRow_setCell_below (ownsRow_setCell_below (ownsRow_setCell_below HO5.out (a := ⟨w2.heap.size + 1, 0, none⟩) (by show w2.heap.size + 1 < _; omega) (.slice A5 bs.length c5)) (a := ⟨w2.heap.size + 1, 1, none⟩) (by show w2.heap.size + 1 < _; omega) (.string ⟨#[]⟩)) (a := ⟨w2.heap.size + 1, 2, none⟩) (by show w2.heap.size + 1 < _; omega) (.int .u16 u)
        clear b1 f1
        generalize ((w5.setCell ⟨w2.heap.size + 1, 0, none⟩ (.slice A5 bs.length c5)).setCell ⟨w2.heap.size + 1, 1, none⟩ (.string ⟨#[]⟩)).setCell ⟨w2.heap.size + 1, 2, none⟩ (.int .u16 u) = w6 at *
        have b1 := hX6.b1
        have HX6 := Lib.hid hX6
        have hbs2 := HBB_2.out.size
        have HOw := Lib.hid (own_below HO_2.out HX6.out.below)
        have HO2w := Lib.hid (own_below HO2_2.out HX6.out.below)
        have HIw := Lib.hid (HI_2.out.below HX6.out.below)
        have HBBw := Lib.hid (HBB_2.out.trans (HX6.out.below.mono hbs2))
        have hB4 : B ≤ w4.heap.size := by rw [HB.out]; omega
        have HO6 := Lib.hid (own_mono hO6 hB4)
        clear HO_2 HO2_2 HI_2 HBB_2 HX6 hX6 hO6 HO5 HX5 hbs2 hB4 hs4
        have hE : ownGt w6 B (es' ++ [(⟨A5, bs.length, c5, bs, u⟩ : Gt)]) := fun y hy => by
          rcases List.mem_append.1 hy with hy | hy
          · exact HIw.out y hy
          · simp at hy; subst hy; exact ⟨t5, ht5, HO6.out⟩
        have hm3 : (es' ++ [(⟨A5, bs.length, c5, bs, u⟩ : Gt)]).map Gt.is = (os.take (j + 1)).map GOut.is := by rw [HT.out, List.map_append, List.map_append, HM.out]; rfl
        have hok : okCells (os.take (j + 1)) = okCells (os.take j) ++ [.bool true] := by rw [HT.out]; unfold okCells; rw [List.map_append]; rfl
        have hl3 : (es' ++ [(⟨A5, bs.length, c5, bs, u⟩ : Gt)]).length = j + 1 := by rw [List.length_append, hlj]; rfl
        have hbw := HBBw.out.size
        have how := HOw.out
        have hE1 := Lib.hid hE
        have HM3 := Lib.hid hm3
        have HOK := Lib.hid hok
        have HL3 := Lib.hid hl3
        clear hE hm3 hok hl3
        rw [← HB.out] at hbw
        go_wp2_with ((at_builtin; refine append1 rfl _ _ 33 rfl (B) 30 i0 (.agg #[.slice none 0 0, .string ⟨#[]⟩, .int .u16 0]) 3 48 Tryd.underlying33 hi hz0 hz1 hz2 rfl (by decide) _ _ _ rfl (how) _ _ [.slice A5 bs.length c5, .string ⟨#[]⟩, .int .u16 u] rfl (by simp) rfl rfl (by unfold maxLen; omega) (by omega) (by first | omega | (simp; omega)) ?_))
        intro v3 w3 hown3 hgr3
        obtain ⟨hb3, ho23, hE3⟩ := geach_push1 (cs := [.slice A5 bs.length c5, .string ⟨#[]⟩, .int .u16 u]) HB.out (HB.out.symm ▸ HBBw.out) how HO2w.out hE1.out hgr3
        have he3 : w3.ownsRow B 30 3 v3 (es' ++ [(⟨A5, bs.length, c5, bs, u⟩ : Gt)]).length (gtCells (es' ++ [(⟨A5, bs.length, c5, bs, u⟩ : Gt)])) := by rw [gtCells_append, List.length_append, hlj]; exact hown3
        have hbs3 : B ≤ w3.heap.size := by rw [HB.out]; exact (HB.out ▸ hb3).size
        generalize es' ++ [(⟨A5, bs.length, c5, bs, u⟩ : Gt)] = es3 at *
        have HB3 := Lib.hid hb3
        have HE3 := Lib.hid hE3
        have HO3 := Lib.hid he3
        clear hown3 hgr3 hb3 hE3 he3 hE1 how HOw HO2w HIw HBBw hbw
        go_wp2_with ((at_builtin; refine append1 rfl _ _ 34 rfl (B) 4 i1 (.bool false) 1 1 Tryd.underlying34 hi1 hz01 hz11 hz21 rfl (by decide) _ _ _ rfl (ho23) _ _ [.bool true] rfl (by simp) rfl rfl (by unfold maxLen; omega) (by omega) (by first | omega | (simp; omega)) ?_))
        intro v4 w4 hown4 hgr4
        obtain ⟨hb4, ho4, hE4⟩ := geach_push2 (cs := [.bool true]) HB.out HB3.out HO3.out ho23 HE3.out hgr4
        rw [← HOK.out] at hown4
        have G1 := Lib.hid hb4
        have G2 := Lib.hid ho4
        have G3 := Lib.hid hE4
        have G4 := Lib.hid hown4
        clear hb4 ho4 hE4 hown4 hgr4 ho23 HB3 HO3 HE3
        go_wp2
        go_roundw
        case rel => exact ⟨j + 1, es3, by omega, by go_num, G2, G4, HL3.out, HM3, G3, G1⟩
        case measure => simp [intOf]; omega
    · obtain rfl : j = n := by omega
      have hm3 := HM.out
      have ho2 := HO2.out
      rw [List.take_of_length_le (by omega)] at hm3 ho2
      obtain ⟨A', c', rfl⟩ := own_slice HO.out
      obtain ⟨A2, c2, rfl⟩ := own_slice ho2
      have HM3 := Lib.hid hm3
      have HO3 := Lib.hid ho2
      clear hm3 ho2
      go_wp2
      go_returns
      refine ⟨A', c', es', A2, c2, ?_, HO.out, ?_, HM3.out, HI.out, HBB.out⟩
      · rw [hlj, ho]; rfl
      · rw [ho]; exact HO3.out
end Go.Proofs.YtaofindlomkbbaaDoor
