/-
  The walk of laws.FnGateMoreDigits.
-/
import Derived.Shelf.Strconv.Quote
import Derived.Shelf.Pu.ParseUintPublic10
import Derived.Test.YtaofindlomkbbaaDoorShelfG
import Derived.Test.YtaofindlomkbbaaDoorGPP
import Derived.Test.YtaofindlomkbbaaDoorRegion3
import Derived.PinnedBridge
import Derived.Test.YtaofindlomkbbaaDoorGCut
import Derived.Test.YtaofindlomkbbaaDoorFrameG
import Derived.Lib.LaidU8
import Derived.Test.YtaofindlomkbbaaDoorGSame
namespace Go.Proofs.YtaofindlomkbbaaDoor
open Go Go.Shelf
def Tryd.lays177_ren : Go.Shelf.Ren := ⟨fun | 177 => 26 | 250 => 43 | 289 => 63 | 197 => 79 | 323 => 80 | 260 => 87 | 339 => 88 | 340 => 89 | 242 => 90 | 119 => 91 | 345 => 95 | 346 => 96 | 278 => 97 | n => n, fun | 9 => 9 | 5 => 5 | 4 => 4 | 3 => 3 | 37 => 22 | 21 => 21 | 105 => 126 | 46 => 98 | 119 => 140 | 0 => 0 | 139 => 143 | 138 => 142 | 49 => 28 | 234 => 144 | 131 => 145 | 51 => 108 | 236 => 147 | n => n, fun | 3 => 7 | 4 => 8 | 20 => 9 | 21 => 10 | 22 => 11 | 23 => 12 | 24 => 13 | n => n⟩
theorem Tryd.lays177 : Go.Proofs.Lays.n177 Tryd.prog Tryd.lays177_ren := {
  mixed := by kernel_rfl
  f119 := Tryd.func91.trans (congrArg some (by kernel_rfl))
  f177 := Tryd.func26.trans (congrArg some (by kernel_rfl))
  f197 := Tryd.func79.trans (congrArg some (by kernel_rfl))
  f242 := Tryd.func90.trans (congrArg some (by kernel_rfl))
  f250 := Tryd.func43.trans (congrArg some (by kernel_rfl))
  f260 := Tryd.func87.trans (congrArg some (by kernel_rfl))
  f278 := Tryd.func97.trans (congrArg some (by kernel_rfl))
  f289 := Tryd.func63.trans (congrArg some (by kernel_rfl))
  f323 := Tryd.func80.trans (congrArg some (by kernel_rfl))
  f339 := Tryd.func88.trans (congrArg some (by kernel_rfl))
  f340 := Tryd.func89.trans (congrArg some (by kernel_rfl))
  f345 := Tryd.func95.trans (congrArg some (by kernel_rfl))
  f346 := Tryd.func96.trans (congrArg some (by kernel_rfl))
  t0 := Tryd.underlying0
  a0 := Tryd.isAgg0
  z0 := Tryd.sizeOf0
  v0 := Tryd.zeroValue0
  t3 := Tryd.underlying3
  a3 := Tryd.isAgg3
  z3 := Tryd.sizeOf3
  v3 := Tryd.zeroValue3
  t4 := Tryd.underlying4
  a4 := Tryd.isAgg4
  z4 := Tryd.sizeOf4
  v4 := Tryd.zeroValue4
  t5 := Tryd.underlying5
  a5 := Tryd.isAgg5
  z5 := Tryd.sizeOf5
  v5 := Tryd.zeroValue5
  t9 := Tryd.underlying9
  a9 := Tryd.isAgg9
  z9 := Tryd.sizeOf9
  v9 := Tryd.zeroValue9
  t21 := Tryd.underlying21
  a21 := Tryd.isAgg21
  z21 := Tryd.sizeOf21
  v21 := Tryd.zeroValue21
  t37 := Tryd.underlying22
  a37 := Tryd.isAgg22
  z37 := Tryd.sizeOf22
  v37 := Tryd.zeroValue22
  t46 := Tryd.underlying98
  a46 := Tryd.isAgg98
  z46 := Tryd.sizeOf98
  v46 := Tryd.zeroValue98
  t49 := Tryd.underlying28
  a49 := Tryd.isAgg28
  z49 := Tryd.sizeOf28
  v49 := Tryd.zeroValue28
  t51 := Tryd.underlying108
  a51 := Tryd.isAgg108
  z51 := Tryd.sizeOf108
  v51 := Tryd.zeroValue108
  t105 := Tryd.underlying126
  a105 := Tryd.isAgg126
  z105 := Tryd.sizeOf126
  v105 := Tryd.zeroValue126
  t119 := Tryd.underlying140
  a119 := Tryd.isAgg140
  z119 := Tryd.sizeOf140
  t131 := Tryd.underlying145
  a131 := Tryd.isAgg145
  z131 := Tryd.sizeOf145
  v131 := Tryd.zeroValue145
  t138 := Tryd.underlying142
  a138 := Tryd.isAgg142
  z138 := Tryd.sizeOf142
  v138 := Tryd.zeroValue142
  t139 := Tryd.underlying143
  a139 := Tryd.isAgg143
  z139 := Tryd.sizeOf143
  v139 := Tryd.zeroValue143
  t234 := Tryd.underlying144
  a234 := Tryd.isAgg144
  z234 := Tryd.sizeOf144
  v234 := Tryd.zeroValue144
  t236 := Tryd.underlying147
  a236 := Tryd.isAgg147
  z236 := Tryd.sizeOf147
  v236 := Tryd.zeroValue147
  g3 := by kernel_rfl
  g4 := by kernel_rfl
  g20 := by kernel_rfl
  g21 := by kernel_rfl
  g22 := by kernel_rfl
  g23 := by kernel_rfl
  g24 := by kernel_rfl }
open Go.RowKit in
/-- **strconv.Quote AT EVERY STRING, VALID UTF-8 OR NOT** (of at most some 2^43 bytes: ten bytes may come of one): 'strOfNums (Lib.quoteZ T s)': Derived/Lib/QuoteLoop.lean: a row of Lean a statement of Go. Of what was there nothing has turned. (LAID: no walk: one application.) -/
theorem Tryd.strconv_Quote (T : Lib.PrintTabs) (s : ByteArray) (w : World) (hlen : 10 * s.size + 12 ≤ 140737488355328) (hT : Lib.PrintTabsAt 9 10 11 12 T w) (hU : Lib.Utf8Tabs 7 8 w) :
    Calls Tryd.prog 26 #[.string s] w fun e w' => e = .returned (.string (strOfNums (Lib.quoteZ T s))) ∧ Below w.heap.size w w' := Any.strconv_Quote Tryd.lays177 (by kernel_rfl) T s w hlen hT hU
open Go.RowKit in
/-- strconv.ParseUint(s, 10, 16), AT EVERY NUMERAL THAT NO uint16 HOLDS: THE GREATEST uint16, AND AN ERROR THAT IS NOT nil: a *NumError in a new block N: {Func: "ParseUint", Num: s's bytes, Err: what the variable ErrRange holds}. Of what was there nothing has turned. (LAID: no walk: one application.) -/
theorem Tryd.strconv_ParseUint_10_at16_range (s : ByteArray) (hlim : s.size ≤ 281474976710656) (h : Lib.parseUintB 16 s.data.toList = .range) (ev : Value) (w : World) (hv : w.cell? ⟨5, 0, none⟩ = some ev) (hev : ev = .nilIface ∨ ∃ te pe, ev = .iface te pe) :
    Calls Tryd.prog 24 #[.string s, .int .i64 10, .int .i64 16] w fun e w' => ∃ N, e = .returned (.tuple #[.int .u64 65535, .iface 103 (.pointer (some ⟨N, 0, none⟩))]) ∧ w.heap.size ≤ N ∧ w'.heap[N]? = some (.cells #[.string ⟨#[80, 97, 114, 115, 101, 85, 105, 110, 116]⟩, .string s, ev] 125 (0, 0)) ∧ Below w.heap.size w w' := Any.strconv_ParseUint_10_at16_range Tryd.laysPu14 s hlim h ev w hv hev
end Go.Proofs.YtaofindlomkbbaaDoor
namespace Go.Proofs.YtaofindlomkbbaaDoor
open Go Go.RowKit
/-- What strconv.Quote and ParseUint ask of the world: their tables, and ErrRange. -/
def QW (w : World) : Prop := Lib.PrintTabsAt 9 10 11 12 Lib.goPrintTabs w ∧ Lib.Utf8Tabs 7 8 w ∧ ∃ ev, w.cell? ⟨5, 0, none⟩ = some ev ∧ (ev = .nilIface ∨ ∃ t p, ev = .iface t p)
theorem QW.keep {w w' : World} (h : QW w) (hb : Below w.heap.size w w') : QW w' := by
  obtain ⟨h1, h2, ev, h3, h4⟩ := h
  exact ⟨printTabs_below h1 hb, Utf8Tabs_below h2 hb, ev, (hb.cell (p := ⟨5, 0, none⟩) (Lib.lt_of_cell h3)).trans h3, h4⟩
set_option maxRecDepth 100000 in
theorem errNew_c (s : ByteArray) (w : World) : Calls Tryd.prog 25 #[.string s] w fun e w' => ∃ p, e = .returned (.iface 84 p) ∧ Below w.heap.size w w' := by
  go_enter Tryd.func25, Tryd.ntmps25
  go_wp2
  go_returns
  exact ⟨_, rfl, (Below.refl _ _).alloc (Nat.le_refl _) _⟩
def qs (s : ByteArray) : ByteArray := strOfNums (Lib.quoteZ Lib.goPrintTabs s)
theorem qs_size (s : ByteArray) : (qs s).size ≤ 10 * s.size + 2 := by unfold qs; rw [strOfNums_size]; exact Lib.quoteZ_length_le _ _
theorem quote_c (s : ByteArray) (w : World) (hq : QW w) (hlen : 10 * s.size + 12 ≤ 140737488355328) : Calls Tryd.prog 26 #[.string s] w fun e w' => e = .returned (.string (qs s)) ∧ Below w.heap.size w w' :=
  Tryd.strconv_Quote Lib.goPrintTabs s w hlen hq.1 hq.2.1
set_option maxRecDepth 100000 in
set_option maxHeartbeats 8000000 in
theorem pp_range (s ip pt : ByteArray) (v6 : Bool) (w : World) (hq : QW w) (hs : 10 * s.size + 12 ≤ 140737488355328) (hp : 10 * pt.size + 12 ≤ 140737488355328)
    (hsp : ∀ w, Calls Tryd.prog 23 #[.string s] w fun e w' => e = .returned (.tuple #[.string ip, .string pt, .bool v6, .nilIface]) ∧ Below w.heap.size w w')
    (hu : Lib.parseUintB 16 pt.data.toList = .range) :
    Calls Tryd.prog 17 #[.string s] w fun e w' => PPErr e ∧ Below w.heap.size w w' := by
  have HX := Lib.hid (boxes2 (x0 := pa0) (x1 := pa0) w 56 56)
  have HU := Lib.hid hu
  clear hu
  go_enter Tryd.func17, Tryd.ntmps17
  go_wp2_with fail
  refine (hsp _).mono ?_
  rintro e w2 ⟨rfl, hb2⟩
  have hB := HX.out.keep hb2
  have hq2 := hq.keep hB.below
  obtain ⟨-, -, ev, hv, hev⟩ := hq2
  have HB := Lib.hid hB
  clear hb2 hB HX
  go_wp2_with fail
  refine (Tryd.strconv_ParseUint_10_at16_range pt (by omega) HU.out ev w2 hv hev).mono ?_
  rintro e w3 ⟨M, rfl, -, -, hb3⟩
  have hB3 := HB.out.keep hb3
  have b1 := hB3.b1
  have b0 := hB3.b0
  have f0 := hB3.f0
  have HB3 := Lib.hid hB3
  have HQ3 := Lib.hid (hq.keep hB3.below)
  clear hb3 hB3 HB hv hev
  go_wp2_with fail
  have k1 := fun w1 (h : Below w3.heap.size w3 w1) => quote_c pt w1 (HQ3.out.keep h) hp
  have k2 := fun w1 (h : Below w3.heap.size w3 w1) => quote_c s w1 (HQ3.out.keep h) hs
  have z1 := qs_size pt
  have z2 := qs_size s
  generalize qs pt = Q1 at k1 z1
  generalize qs s = Q2 at k2 z2
  have hdr : Below w3.heap.size w3 w3.drew := ⟨rfl, rfl, rfl, Nat.le_refl _, fun _ _ => rfl⟩
  have s1 : ¬ 9223372036854775807 < 13 + Q1.size := by omega
  have s2 : ¬ 9223372036854775807 < 13 + Q1.size + 9 := by omega
  have s3 : ¬ 9223372036854775807 < 13 + Q1.size + 9 + Q2.size := by omega
  clear z1 z2 b1 b0 f0
  refine region_pick (Below w3.heap.size w3) [(0, false, none), (1, false, none), (2, false, none), (3, false, none), (4, false, none), (5, false, none), (6, false, none), (7, false, none), (8, true, none)] 9 (by kernel_rfl) (by kernel_rfl) (fun w w' h hb => h.trans (hb.mono h.size)) (hdr) ?_
  simp only [pickOps, List.getElem?_cons_zero, List.getElem?_cons_succ]
  repeat (first | (refine t_skip rfl ?_; (simp only [Act.put, List.setIfInBounds_toArray, List.set_cons_zero, List.set_cons_succ])) | (refine t_run ?_ rfl (fun w1 hw1 => ?_) ?_; rotate_left; (have r0 := (HB3.out.keep hw1).b1; have r1 := s1; have r2 := s2; have r3 := s3; go_simp; try (with_reducible rfl)); (simp only [Act.put, List.setIfInBounds_toArray, List.set_cons_zero, List.set_cons_succ])) | (refine t_call ?_ ?_ ?_ rfl (fun w1 hw1 => ?_) (fun w1 hw1 => ?_) ?_; rotate_left 3; (have r0 := (HB3.out.keep hw1).b1; have r1 := s1; have r2 := s2; have r3 := s3; go_simp; refine ⟨?_, ?_⟩ <;> with_reducible rfl); (first | (go_at_call 26; (with_reducible refine (k1 w1 hw1).mono ?_); rintro e w2 ⟨rfl, hb⟩; refine ⟨?_, hb⟩; with_reducible rfl) | (go_at_call 26; (with_reducible refine (k2 w1 hw1).mono ?_); rintro e w2 ⟨rfl, hb⟩; refine ⟨?_, hb⟩; with_reducible rfl) | (go_at_call 26; (refine (k1 w1 hw1).mono ?_); rintro e w2 ⟨rfl, hb⟩; refine ⟨?_, hb⟩; with_reducible rfl) | (go_at_call 26; (refine (k2 w1 hw1).mono ?_); rintro e w2 ⟨rfl, hb⟩; refine ⟨?_, hb⟩; with_reducible rfl)); (simp only [Act.put, List.setIfInBounds_toArray, List.set_cons_zero, List.set_cons_succ])))
  refine t_fresh ?_ ?_ (fun v w' => ∃ p, v = .iface 84 p) (by rfl) (fun w1 hw1 => ?_) (fun v w w' h hb => h) (fun w1 hw1 => ?_) ?_
  rotate_left 2
  (go_simp; refine ⟨?_, ?_⟩ <;> with_reducible rfl)
  (go_at_call 25; (with_reducible refine (errNew_c _ w1).mono ?_); rintro e w2 ⟨p, rfl, hb⟩; exact ⟨_, rfl, ⟨p, rfl⟩, hb⟩)
  rintro v8 ⟨-, -, p8, rfl⟩
  (simp only [Act.put, List.setIfInBounds_toArray, List.set_cons_zero, List.set_cons_succ])
  intro w8 ⟨hw8, _⟩
  simp only [List.drop_succ_cons, List.drop_zero]
  have hB8 := HB3.out.keep hw8
  have b0 := hB8.b0
  have f0 := hB8.f0
  have HB8 := Lib.hid hB8
  clear hB8 hw8 k1 k2
  go_wp2_with (with_reducible exact ret17 HB8.out ⟨PPErr.of, low_put4 HB8.out.below (Nat.le_refl _)⟩)
end Go.Proofs.YtaofindlomkbbaaDoor
namespace Go.Proofs.YtaofindlomkbbaaDoor
open Go Go.RowKit
/-- The digit that a byte stands for. -/
def dg (d : UInt8) : UInt8 := UInt8.ofNat (48 + d.toNat % 10)
theorem dg_nat (d : UInt8) : (dg d).toNat = 48 + d.toNat % 10 := by unfold dg; rw [UInt8.toNat_ofNat']; omega
def digT (l : List UInt8) : List UInt8 := l.map dg
theorem digT_digs (l : List UInt8) : Digs (digT l) := fun c hc => by
  obtain ⟨d, -, rfl⟩ := List.mem_map.1 hc
  rw [dg_nat]; omega
theorem digT_len (l : List UInt8) : (digT l).length = l.length := List.length_map _
/-- The value that the law keeps. -/
def mval (u : Nat) (l : List UInt8) : Nat := min 65536 (numA u (digT l))
theorem mval_nil {u : Nat} (hu : u < 65536) : mval u [] = u := by unfold mval digT numA; rw [List.map_nil]; simp only; omega
theorem mval_le (u : Nat) (l : List UInt8) : mval u l ≤ 65536 := Nat.min_le_left _ _
theorem mval_step (u : Nat) (l : List UInt8) (d : UInt8) : mval u (l ++ [d]) = min 65536 (10 * mval u l + d.toNat % 10) := by
  unfold mval digT
  rw [List.map_append, numA_append]
  show min 65536 (numA u (l.map dg) * 10 + ((dg d).toNat - 48)) = _
  rw [dg_nat]
  omega
def mtext (bs : List UInt8) (u : Nat) (l : List UInt8) : List UInt8 := gT bs u ++ digT l
theorem mtext_eq (bs : List UInt8) (u : Nat) (l : List UInt8) : mtext bs u l = gA bs ++ 58 :: (Lib.decDigits u ++ digT l) := by unfold mtext; rw [gT_gA]; simp
theorem mtext_nil (bs : List UInt8) (u : Nat) : mtext bs u [] = gT bs u := List.append_nil _
theorem mtext_step (bs : List UInt8) (u : Nat) (l : List UInt8) (d : UInt8) : ba (mtext bs u l) ++ ⟨#[dg d]⟩ = ba (mtext bs u (l ++ [d])) := by
  refine ba_of ?_
  rw [ByteArray.data_append, Array.toList_append, ba_list]
  unfold mtext digT
  rw [List.map_append]
  simp
theorem um_range (l : List UInt8) (hd : Digs l) : ∀ acc, acc < 65536 → 65536 ≤ numA acc l → Lib.parseUintM 65535 acc l = .range := by
  induction l with
  | nil => intro acc h1 h2; unfold numA at h2; omega
  | cons c r ih =>
    intro acc h1 h2
    have hc := hd c (List.mem_cons_self ..)
    unfold Lib.parseUintM
    rw [if_pos hc, if_neg (by omega)]
    by_cases h : 65535 < acc * 10 + (c.toNat - 48)
    · rw [if_pos h]
    · rw [if_neg h]
      exact ih (fun x hx => hd x (List.mem_cons_of_mem _ hx)) _ (by omega) h2
theorem ub_range {l : List UInt8} (hn : l ≠ []) (hd : Digs l) (h : 65536 ≤ numA 0 l) : Lib.parseUintB 16 l = .range := by
  unfold Lib.parseUintB
  rw [if_neg hn]
  exact um_range l hd 0 (by omega) h
/-- How splitAddrPort parts an address's text, a colon and digits. -/
theorem gt_split (bs D : List UInt8) (hl : isLen bs.length) (hD : D ≠ []) (hd : Digs D) (hlen : D.length ≤ 1099511627776) :
    ∃ ip v6, ∀ w, Calls Tryd.prog 23 #[.string (ba (gA bs ++ 58 :: D))] w fun e w' => e = .returned (.tuple #[.string ip, .string (ba D), .bool v6, .nilIface]) ∧ Below w.heap.size w w' := by
  have hno := gA_no hl
  have hpos := adT_pos hl
  have hle := adT_le hl
  have hDp : 0 < D.length := List.length_pos_iff.2 hD
  have hgl : 0 < (gA bs).length ∧ (gA bs).length ≤ 84 := by
    unfold gA
    split
    · omega
    · simp; omega
  have hlx : lix (ba (gA bs ++ 58 :: D)).data.toList 58 (ba (gA bs ++ 58 :: D)).size = (gA bs).length := by
    rw [ba_size, ba_list]; exact lix_all (digs_no58 hd)
  have hsz : (ba (gA bs ++ 58 :: D)).size = (gA bs).length + 1 + D.length := by rw [ba_size]; simp; omega
  have hin : 0 < (ba (gA bs)).size := by rw [ba_size]; exact hgl.1
  by_cases hx : ((ba (gA bs))[0]'hin).toNat = 91
  · have h4 : ¬ bs.length = 4 := fun h4 => by
      have hA : gA bs = Tx.adT bs := if_pos h4
      rw [ba_at] at hx
      have hm := List.getElem_mem (l := gA bs) (n := 0) (by rw [← ba_size]; exact hin)
      rw [show (gA bs)[0]'(by rw [← ba_size]; exact hin) = 91 from UInt8.toNat_inj.1 hx] at hm
      exact hno.2.1 (hA ▸ hm)
    have hA : gA bs = 91 :: (Tx.adT bs ++ [93]) := if_neg h4
    have hm : (ba (gA bs)).size = (Tx.adT bs).length + 1 + 1 := by rw [ba_size, hA]; simp
    have hy : ((ba (gA bs))[(Tx.adT bs).length + 1]'(by omega)).toNat = 93 := by
      rw [ba_at]
      simp [hA]
    exact ⟨_, _, fun w => split_closed _ (ba (gA bs)) (ba D) (gA bs).length w (by rw [hsz]; omega) hlx (ba_pre _ _) (ba_suf _ _ _) (ba_size _) (by rw [hsz, ba_size]) hin (by rw [ba_size]; exact hDp) hx (by omega) ((Tx.adT bs).length + 1) hm hy⟩
  · exact ⟨_, _, fun w => split_plain _ (ba (gA bs)) (ba D) (gA bs).length w (by rw [hsz]; omega) hlx (ba_pre _ _) (ba_suf _ _ _) (ba_size _) (by rw [hsz, ba_size]) hin (by rw [ba_size]; exact hDp) hx⟩
/-- What an address with a port of any number reads as. -/
def moreO (bs : List UInt8) (v : Nat) : GOut := if v < 65536 then some (bs, v) else none
theorem more_reads (bs : List UInt8) (u : Nat) (l : List UInt8) (hl : isLen bs.length) (hu : u < 65536) (hlen : l.length ≤ 1048576) (z : ZP) (w0 : World) (hz : Zs w0 z) (hq : QW w0) :
    GReads z w0 (ba (mtext bs u l)) (moreO bs (numA u (digT l))) := by
  have hn : numA 0 (Lib.decDigits u ++ digT l) = numA u (digT l) := by rw [numA_append, dd_num]
  have hdl := dd_len hu
  have hdp : 0 < (Lib.decDigits u).length := List.length_pos_iff.2 (dd_ne u)
  have hD : Lib.decDigits u ++ digT l ≠ [] := fun h => by have := congrArg List.length h; rw [List.length_append, List.length_nil] at this; omega
  have hd : Digs (Lib.decDigits u ++ digT l) := fun c hc => by
    rcases List.mem_append.1 hc with hc | hc
    · exact dd_digs u c hc
    · exact digT_digs l c hc
  have hll : (Lib.decDigits u ++ digT l).length ≤ 1048581 := by rw [List.length_append, digT_len]; omega
  rw [mtext_eq, ← hn]
  generalize Lib.decDigits u ++ digT l = D at *
  unfold moreO
  by_cases h : numA 0 D < 65536
  · rw [if_pos h]
    exact gt_reads bs D hl hD hd h (by omega) z w0 hz
  · rw [if_neg h]
    refine ⟨fun p hp => (by cases hp), fun w hb => ?_⟩
    obtain ⟨ip, v6, hs⟩ := gt_split bs D hl hD hd (by omega)
    have hle := adT_le hl
    have hgl := gA_len (bs := bs)
    have hsz : (ba (gA bs ++ 58 :: D)).size ≤ 1048700 := by rw [ba_size, List.length_append, List.length_cons]; split at hgl <;> omega
    exact pp_range _ ip (ba D) v6 w (hq.keep hb) (by omega) (by rw [ba_size]; omega) hs (by rw [ba_list]; exact ub_range hD hd (by omega))
theorem moreO_ok (bs : List UInt8) (v : Nat) : (moreO bs v).ok = decide (min 65536 v ≤ 65535) := by
  unfold moreO
  by_cases h : v < 65536
  · rw [if_pos h]
    exact (decide_eq_true (by omega)).symm
  · rw [if_neg h]
    exact (decide_eq_false (by omega)).symm
end Go.Proofs.YtaofindlomkbbaaDoor
namespace Go.Proofs.YtaofindlomkbbaaDoor
open Go Go.RowKit Go.ChangeShapes Go.WideShapes Go.ChangeAt Go.Deep
theorem gRange : Tryd.prog.globalNamed "strconv.ErrRange" = some 5 := by kernel_rfl
theorem tRange : (Tryd.prog.globals[(5 : Nat)]?).map (·.type) = some 58 := by kernel_rfl
set_option maxRecDepth 100000 in
theorem qw_of_laid15 {W : World} (h : laidMetH Tryd.prog laid15 W) : QW W := by
  rw [MakeChecks.laidMetH_plain _ _ _ (by kernel_rfl)] at h
  have h16 := (show Rows.laid_strconv_isPrint16 = Lib.sliceData .u16 Lib.goPrintTabs.p16 from Pinned.isPrint16_eq) ▸ Lib.laidMet.reads h (.tail _ (.tail _ (.tail _ (.tail _ (.tail _ (.tail _ (.tail _ (.tail _ (.tail _ (.tail _ (.tail _ (.tail _ (.head _)))))))))))))
  have n16 := (show Rows.laid_strconv_isNotPrint16 = Lib.sliceData .u16 Lib.goPrintTabs.n16 from Pinned.isNotPrint16_eq) ▸ Lib.laidMet.reads h (.tail _ (.tail _ (.tail _ (.tail _ (.tail _ (.tail _ (.tail _ (.tail _ (.tail _ (.tail _ (.head _)))))))))))
  have h32 := (show Rows.laid_strconv_isPrint32 = Lib.sliceData .u32 Lib.goPrintTabs.p32 from Pinned.isPrint32_eq) ▸ Lib.laidMet.reads h (.tail _ (.tail _ (.tail _ (.tail _ (.tail _ (.tail _ (.tail _ (.tail _ (.tail _ (.tail _ (.tail _ (.tail _ (.tail _ (.head _))))))))))))))
  have n32 := (show Rows.laid_strconv_isNotPrint32 = Lib.sliceData .u16 Lib.goPrintTabs.n32 from Pinned.isNotPrint32_eq) ▸ Lib.laidMet.reads h (.tail _ (.tail _ (.tail _ (.tail _ (.tail _ (.tail _ (.tail _ (.tail _ (.tail _ (.tail _ (.tail _ (.head _))))))))))))
  have hF := (show Rows.laid_unicode_utf8_first = Lib.firstData from Pinned.utf8First_eq) ▸ Lib.laidMet.reads h (.tail _ (.tail _ (.tail _ (.tail _ (.tail _ (.tail _ (.tail _ (.tail _ (.tail _ (.tail _ (.tail _ (.tail _ (.tail _ (.tail _ (.head _)))))))))))))))
  have hA := (show (Rows.laid_unicode_utf8_acceptRanges : DataW Unit) = Lib.acceptData by kernel_rfl) ▸ Lib.laidMet.reads h (.tail _ (.tail _ (.tail _ (.head _))))
  have hE := Lib.laidMet.reads h (.tail _ (.tail _ (.tail _ (.tail _ (.head _)))))
  refine ⟨printTabs_of_reads (ρ := Tryd.lays177_ren) { Tryd.lays177 with } ⟨by kernel_rfl, by kernel_rfl, by kernel_rfl, by kernel_rfl, by kernel_rfl, by kernel_rfl, by kernel_rfl, by kernel_rfl, by kernel_rfl, by kernel_rfl⟩ h16 n16 h32 n32,
    utf8Tabs_of_reads (ρ := Tryd.lays177_ren) { Tryd.lays177 with } ⟨by kernel_rfl, by kernel_rfl, by kernel_rfl, by kernel_rfl, by kernel_rfl, by kernel_rfl, by kernel_rfl⟩ hF hA, ?_⟩
  obtain ⟨g, t, cs, fuel, p, hg, ht, hvar, htr⟩ := hE
  obtain rfl := Option.some.inj (gRange.symm.trans hg)
  obtain rfl := Option.some.inj (tRange.symm.trans ht)
  obtain ⟨ms, hu⟩ := errErr
  obtain ⟨_, u, v, hc, -, -⟩ := iface_of_trod hu htr
  obtain rfl : cs = #[.iface u v] := by cases cs; simpa using hc
  have hcell := World.var?_cell gRange hvar 0
  exact ⟨.iface u v, by simpa using hcell, .inr ⟨u, v, rfl⟩⟩
end Go.Proofs.YtaofindlomkbbaaDoor
namespace Go.Proofs.YtaofindlomkbbaaDoor
open Go Go.RowKit
theorem infoI64 : (Tryd.prog.info? 3).map (fun i => (i.zero, i.size, i.bytes)) = some (some (.int .i64 0), 1, 8) := by kernel_rfl
/-- The texts and the values so far. -/
def mtexts (bs : List UInt8) (u : Nat) (ds : List UInt8) (t : Nat) : List ByteArray := (List.range t).map fun q => ba (mtext bs u (ds.take (q + 1)))
def mvals (u : Nat) (ds : List UInt8) (t : Nat) : List Value := (List.range t).map fun q => Value.int .i64 (mval u (ds.take (q + 1)))
theorem mtexts_len (bs : List UInt8) (u : Nat) (ds : List UInt8) (t : Nat) : (mtexts bs u ds t).length = t := by unfold mtexts; simp
theorem mtexts_succ (bs : List UInt8) (u : Nat) (ds : List UInt8) (t : Nat) : (mtexts bs u ds (t + 1)).map Value.string = (mtexts bs u ds t).map Value.string ++ [.string (ba (mtext bs u (ds.take (t + 1))))] := by unfold mtexts; rw [List.range_succ]; simp
theorem mvals_succ (u : Nat) (ds : List UInt8) (t : Nat) : mvals u ds (t + 1) = mvals u ds t ++ [.int .i64 (mval u (ds.take (t + 1)))] := by unfold mvals; rw [List.range_succ]; simp
theorem more_start (w : World) : ((w.alloc (.cells #[] 9)).alloc (.cells #[] 3)).ownsRow w.heap.size 9 1 (.slice (some ⟨w.heap.size, 0, none⟩) 0 0) 0 [] ∧ ((w.alloc (.cells #[] 9)).alloc (.cells #[] 3)).ownsRow w.heap.size 3 1 (.slice (some ⟨w.heap.size + 1, 0, none⟩) 0 0) 0 [] ∧ Below w.heap.size w ((w.alloc (.cells #[] 9)).alloc (.cells #[] 3)) := by
  have h1 : (w.alloc (.cells #[] 9)).ownsRow w.heap.size 9 1 (.slice (some ⟨w.heap.size, 0, none⟩) 0 0) 0 [] := own_lit w #[] _ 1 0 _ (Nat.le_refl _) rfl (by omega)
  have hs : (w.alloc (.cells #[] 9)).heap.size = w.heap.size + 1 := by simp
  have h2 := own_lit (w.alloc (.cells #[] 9)) #[] 3 1 0 w.heap.size (by omega) rfl (by omega)
  rw [hs] at h2
  exact ⟨own_below h1 ((Below.refl _ _).alloc (Nat.le_refl _) _), h2, ((Below.refl _ _).alloc (Nat.le_refl _) _).alloc (by omega) _⟩
/-- The worlds behind an append to one of two rows of different types. -/
theorem more_push {w w1 w2 : World} {B : Nat} {t t2 : TypeId} {v v2 : Value} {n j : Nat} {cs : List Value} {ys xs : List Value} (hB : B = w.heap.size) (hb1 : Below B w w1) (ho : w1.ownsRow B t 1 v n ys) (ho2 : w1.ownsRow B t2 1 v2 j xs) (hne : t2 ≠ t)
    (hg : (w1.alloc (.cells cs.toArray t)).grownBy w2 v.ownBlock) : Below B w w2 ∧ w2.ownsRow B t2 1 v2 j xs := by
  have hs : B ≤ w1.heap.size := by rw [hB]; exact (hB ▸ hb1).size
  have hxa : Below w1.heap.size w1 (w1.alloc (.cells cs.toArray t)) := (Below.refl _ _).alloc (Nat.le_refl _) _
  have hoa := own_below ho hxa
  exact ⟨(hb1.trans (hxa.mono hs)).grown hg (Nat.le_trans hs hxa.size) (own_row_ge ho), (own_below ho2 hxa).kept hg (own_ne (own_below ho2 hxa) hoa hne)⟩
set_option maxRecDepth 100000 in
theorem one_conv2 (w : World) (X : Nat) (y : UInt8) (hy : y.toNat = 48 + X % 10) : (convert 22 9 (.slice (some ⟨w.heap.size, 0, none⟩) 1 1)).run Tryd.prog (w.alloc (.cells #[.int .u8 (48 + (X : Int) % 10)] 5)) = .ok (.string ⟨#[y]⟩) (w.alloc (.cells #[.int .u8 (48 + (X : Int) % 10)] 5)) := by
  have hn : (48 + (X : Int) % 10) = ((y.toNat : Nat) : Int) := by omega
  rw [hn]
  refine run_convert_bytes_back _ _ _ 5 ⟨w.heap.size, 0, none⟩ 1 [y] Tryd.underlying22 Tryd.underlying5 Tryd.underlying9 (fun j hj => ?_)
  obtain rfl : j = 0 := by simpa using hj
  exact (boxes1 (x0 := #[.int .u8 y.toNat]) w 5).b0 0
set_option maxRecDepth 100000 in
set_option maxHeartbeats 32000000 in
theorem gateMore_walk (A : Option Addr) (n c : Nat) (bs : List UInt8) (N : Int) (A2 : Option Addr) (n2 c2 : Nat) (ds : List UInt8) (z : ZP) (w : World) (hz : Zs w z) (hpw : PW w) (hq : QW w) (hr : RB w A n bs) (hR : A = none → n = 0 ∧ c = 0) (hn : n ≤ 140737488355328) (hr2 : RB w A2 n2 ds) (hn2 : n2 ≤ 1048576) :
    Calls Tryd.prog 4 #[.slice A n c, .int .i64 N, .slice A2 n2 c2] w fun e w' => e = .returned (.bool true) ∧ Below w.heap.size w w' := by
  obtain ⟨i0, hi, hz0, hz1, hz2⟩ := info_parts infoStr
  obtain ⟨i1, hi1, hz01, hz11, hz21⟩ := info_parts infoI64
  have hbl := hr.1
  have hpx := portN_and N
  have hp2 := portN_lt N
  have hp3 := wrap_u16 _ hp2
  generalize portN N = u at *
  go_enter Tryd.func4, Tryd.ntmps4
  go_wp2_with fail
  refine (isAddress_c A n c w).mono ?_
  rintro e w0 ⟨rfl, hb0⟩
  by_cases hl : (n == 4 || n == 16) = true
  · rw [hl]
    have hlen : isLen bs.length := by rw [hbl]; simpa [isLen] using hl
    go_wp2_with fail
    refine (plain_c A n c bs w0 (hr.keep hb0) hR hn).mono ?_
    rintro e w1 ⟨A1, c1, rfl, hown1, hb1'⟩
    have hb1 := hb0.trans (hb1'.mono hb0.size)
    have hr1 := RB.of_own hown1
    clear hown1 hb1' hb0
    go_wp2_with fail
    refine (gateText_c A1 n c1 bs u z w1 (hz.keep hb1) hr1 hlen hp2 (hpw.keep hb1)).mono ?_
    rintro e w2 ⟨rfl, hb2'⟩
    have hb2 := hb1.trans (hb2'.mono hb1.size)
    rw [show (⟨(gT bs u).toArray⟩ : ByteArray) = ba (mtext bs u []) by rw [mtext_nil]; rfl]
    have hgT : (gT bs u).length ≤ 90 := by
      have h0 := dd_len hp2
      have h1 := adT_le hlen
      have h2 := gA_len (bs := bs)
      rw [gT_gA, List.length_append, List.length_cons]; split at h2 <;> omega
    have HGT := Lib.hid hgT
    have HB2 := Lib.hid hb2
    have HST := Lib.hid (more_start w2)
    have HM0 := Lib.hid (mval_nil hp2)
    have hds := hr2.1
    have HDS := Lib.hid hds
    clear hb2 hb2' hb1 hr1 hgT hds
    go_wp2_with fail
    go_loopw [7, 8, 9, 10, 32] (fun s v v2 x i wr => ∃ t : Nat, s = .string (ba (mtext bs u (ds.take t))) ∧ x = .int .i64 (mval u (ds.take t)) ∧ i = .int .i64 t ∧ t ≤ n2 ∧ Hid (wr.ownsRow w2.heap.size 9 1 v t ((mtexts bs u ds t).map Value.string)) ∧ Hid (wr.ownsRow w2.heap.size 3 1 v2 t (mvals u ds t)) ∧ Hid (Below w2.heap.size w2 wr)) (fun _ _ _ _ i _ => n2 - (intOf i).toNat)
    case atStart => exact ⟨0, rfl, by rw [List.take_zero, HM0.out], rfl, Nat.zero_le _, Lib.hid HST.out.1, Lib.hid HST.out.2.1, Lib.hid HST.out.2.2⟩
    case round =>
      obtain ⟨t, rfl, rfl, rfl, ht, HO, HO2, HB⟩ := hrel
      by_cases htl : t < n2
      · have hbw := HB2.out.trans (HB.out.mono HB2.out.size)
        obtain ⟨g5, o5, hA5, hg5, hc5⟩ := (hr2.keep hbw).2 (by omega)
        subst hA5
        have hc6 := hc5 t htl
        obtain ⟨d, hd⟩ : ∃ d, d = ds.getD t 0 := ⟨_, rfl⟩
        rw [← hd] at hc6
        have hdl : t < ds.length := by rw [HDS.out]; exact htl
        have htk : ds.take (t + 1) = ds.take t ++ [d] := by rw [List.take_add_one, List.getElem?_eq_getElem hdl, Option.toList_some, hd]; simp [hdl]
        have hst := mtext_step bs u (ds.take t) d
        have hvs := mval_step u (ds.take t) d
        rw [← htk] at hst hvs
        have hvl := mval_le u (ds.take t)
        have hsl : (ba (mtext bs u (ds.take t))).size ≤ 90 + t := by
          have := HGT.out
          rw [ba_size, mtext, List.length_append, digT_len, List.length_take]; omega
        have hdy := dg_nat d
        obtain ⟨X, hX⟩ : ∃ X, X = d.toNat := ⟨_, rfl⟩
        have hX2 : X < 256 := by rw [hX]; exact UInt8.toNat_lt d
        rw [← hX] at hc6 hdy hvs
        generalize dg d = y at hst hdy
        have HT := Lib.hid (And.intro hst (And.intro hvs hdy))
        clear hX hd hdl htk hst hvs hdy hc5 hbw
        obtain ⟨m, hm⟩ : ∃ m, m = mval u (ds.take t) := ⟨_, rfl⟩
        rw [← hm] at hvl HT ⊢
        clear hm
        have hcv : (convert 22 9 (.slice (some ⟨wr.heap.size, 0, none⟩) 1 1)).run Tryd.prog (wr.alloc (.cells #[.int .u8 (48 + (X : Int) % 10)] 5)) = .ok (.string ⟨#[y]⟩) (wr.alloc (.cells #[.int .u8 (48 + (X : Int) % 10)] 5)) := one_conv2 wr X y HT.out.2.2
        have s1 : ¬ 9223372036854775807 < (ba (mtext bs u (ds.take t))).size + 1 := by omega
        have hxb : Below wr.heap.size wr (wr.alloc (.cells #[.int .u8 (48 + (X : Int) % 10)] 5)) := (Below.refl _ _).alloc (Nat.le_refl _) _
        have HO_ := Lib.hid (own_below HO.out hxb)
        have HO2_ := Lib.hid (own_below HO2.out hxb)
        have HB_ := Lib.hid (HB.out.trans (hxb.mono HB.out.size))
        clear hxb
        go_upto_region 12 with fail
        rw [HT.out.1]
        have hv : min 65536 (10 * (m : Int) + (X : Int) % 10) = ((mval u (ds.take (t + 1)) : Nat) : Int) := by rw [HT.out.2.1]; omega
        rw [hv]
        clear hcv hv hc6 HO HO2 HB
        generalize wr.alloc (.cells #[.int .u8 (48 + (X : Int) % 10)] 5) = w6 at HO_ HO2_ HB_ ⊢
        have how := HO_.out
        have hbw := HB_.out.size
        go_wp2_with ((at_builtin; refine append1 rfl _ _ 32 rfl (w2.heap.size) 9 i0 (.string ⟨#[]⟩) 1 16 Tryd.underlying32 hi hz0 hz1 hz2 rfl (by decide) _ _ _ rfl (how) _ _ [.string (ba (mtext bs u (ds.take (t + 1))))] rfl (by simp) rfl rfl (by unfold maxLen; omega) (by omega) (by first | omega | (simp; omega)) ?_))
        intro v7 w7 hown7 hgr7
        obtain ⟨hb7, ho27⟩ := more_push (cs := [.string (ba (mtext bs u (ds.take (t + 1))))]) rfl HB_.out how HO2_.out (by decide) hgr7
        have he7 : w7.ownsRow w2.heap.size 9 1 v7 (t + 1) ((mtexts bs u ds (t + 1)).map Value.string) := by rw [mtexts_succ]; exact hown7
        have HO7 := Lib.hid he7
        have HB7 := Lib.hid hb7
        have hbw7 := hb7.size
        clear he7 hb7 hown7 hgr7 how HO_ HO2_ HB_ hbw
        go_wp2_with ((at_builtin; refine append1 rfl _ _ 39 rfl (w2.heap.size) 3 i1 (.int .i64 0) 1 8 Tryd.underlying39 hi1 hz01 hz11 hz21 rfl (by decide) _ _ _ rfl (ho27) _ _ [.int .i64 (mval u (ds.take (t + 1)))] rfl (by simp) rfl rfl (by unfold maxLen; omega) (by omega) (by first | omega | (simp; omega)) ?_))
        intro v8 w8 hown8 hgr8
        obtain ⟨hb8, ho8⟩ := more_push (cs := [.int .i64 (mval u (ds.take (t + 1)))]) rfl HB7.out ho27 HO7.out (by decide) hgr8
        have he8 : w8.ownsRow w2.heap.size 3 1 v8 (t + 1) (mvals u ds (t + 1)) := by rw [mvals_succ]; exact hown8
        have G1 := Lib.hid ho8
        have G2 := Lib.hid he8
        have G3 := Lib.hid hb8
        clear hb8 ho8 he8 hown8 hgr8 ho27 HB7 HO7 hbw7
        go_wp2
        go_roundw
        case rel => exact ⟨t + 1, rfl, rfl, by go_num, by omega, G1, G2, G3⟩
        case measure => simp [intOf]; omega
      · obtain rfl : t = n2 := by omega
        obtain ⟨A6, c6, rfl⟩ := own_slice HO.out
        obtain ⟨A7, c7, rfl⟩ := own_slice HO2.out
        have hb6 := HB2.out.trans (HB.out.mono HB2.out.size)
        obtain ⟨os, hos⟩ : ∃ os, os = (List.range t).map fun q => moreO bs (numA u (digT (ds.take (q + 1)))) := ⟨_, rfl⟩
        have hrd : ∀ (i : Nat) (x : ByteArray) (o : GOut), (mtexts bs u ds t)[i]? = some x → os[i]? = some o → GReads z wr x o := fun i x o h1 h2 => by
          by_cases hil : i < t
          · unfold mtexts at h1
            rw [hos] at h2
            rw [List.getElem?_map, List.getElem?_range hil] at h1 h2
            simp only [Option.map_some, Option.some.injEq] at h1 h2
            rw [← h1, ← h2]
            exact more_reads bs u (ds.take (i + 1)) hlen hp2 (by rw [List.length_take]; omega) z wr (hz.keep hb6) (hq.keep hb6)
          · rw [List.getElem?_eq_none (by rw [mtexts_len]; omega)] at h1; cases h1
        have hpe := portEach_t A6 t c6 (mtexts bs u ds t) os z wr (hz.keep hb6) ⟨mtexts_len _ _ _ _, RC.of_own HO.out⟩ (by rw [hos]; simp) hrd (by omega)
        have HPE := Lib.hid (And.intro hpe (And.intro hb6 (RC.of_own HO2.out)))
        have HOS := Lib.hid hos
        have hlx : lix (ba (mtext bs u (ds.take t))).data.toList 58 (ba (mtext bs u (ds.take t))).size = (gA bs).length := by
          rw [ba_size, ba_list, mtext_eq]
          exact lix_all (digs_no58 (fun c hc => by
            rcases List.mem_append.1 hc with hc | hc
            · exact dd_digs u c hc
            · exact digT_digs _ c hc))
        have HLX := Lib.hid hlx
        have hsl : (ba (mtext bs u (ds.take t))).size ≤ 4611686018427387904 := by
          have := HGT.out
          rw [ba_size, mtext, List.length_append, digT_len, List.length_take]; omega
        clear hpe hrd hos hb6 HO HO2 HB HB2 HST hlx
        go_wp2_with fail
        refine HPE.out.1.mono ?_
        rintro e7 w7 ⟨v7, rfl, ⟨A8, c8, A9, c9, es, rfl, hrg, hro, hmap⟩, hb7⟩
        have hbw7 := HPE.out.2.1.trans (hb7.mono HPE.out.2.1.size)
        have hrv := HPE.out.2.2.keep hb7
        have HP7 := Lib.hid (And.intro hrg (And.intro hro (And.intro hmap (And.intro hbw7 hrv))))
        clear hrg hro hmap hbw7 hrv hb7 HPE
        go_wp2_with fail
        refine (lastColon_c _ w7 hsl).mono ?_
        rintro e w8 ⟨rfl, rfl⟩
        rw [HLX.out]
        generalize (gA bs).length = a
        have qa : ¬ (a : Int) < 0 := by omega
        clear hsl
        go_wp2_with fail
        go_loopw [83] (fun i wr2 => ∃ j : Nat, i = .int .i64 j ∧ j ≤ t ∧ Hid (Below w8.heap.size w8 wr2)) (fun i _ => t - (intOf i).toNat)
        case atStart => exact ⟨0, rfl, Nat.zero_le _, Lib.hid (Below.refl _ _)⟩
        case round =>
          obtain ⟨j, rfl, hj, hbj⟩ := hrel
          by_cases hjl : j < t
          · obtain ⟨g8, o8, f, hA8, hg8, hfk, hc0, hc1, hc2, hbf⟩ := (HP7.out.1.keep hbj.out).at hjl
            subst hA8
            obtain ⟨g9, o9, o, hA9, hg9, hok, hd0⟩ := (HP7.out.2.1.keep hbj.out).at hjl
            subst hA9
            obtain ⟨g7, o7, hA7, hg7, hv0⟩ := (HP7.out.2.2.2.2.keep hbj.out) (by unfold mvals; rw [List.length_map, List.length_range]; omega)
            subst hA7
            have hv1 := hv0 j (.int .i64 (mval u (ds.take (j + 1)))) (by unfold mvals; rw [List.getElem?_map, List.getElem?_range hjl]; rfl)
            have hoj : os[j]? = some (moreO bs (numA u (digT (ds.take (j + 1))))) := by rw [HOS.out, List.getElem?_map, List.getElem?_range hjl]; rfl
            have hoo : o = moreO bs (numA u (digT (ds.take (j + 1)))) := by
              rw [hoj] at hok
              injection hok with hok
              exact hok.symm
            have hfo : f.is = (moreO bs (numA u (digT (ds.take (j + 1))))).is := by
              have h1 := congrArg (fun l => l[j]?) HP7.out.2.2.1
              simp only [List.getElem?_map, hfk, hoj, Option.map_some, Option.some.injEq] at h1
              exact h1
            have hvd : mval u (ds.take (j + 1)) = min 65536 (numA u (digT (ds.take (j + 1)))) := rfl
            rw [hvd] at hv1
            generalize numA u (digT (ds.take (j + 1))) = V at hv1 hoo hfo
            subst hoo
            have hjl' : (j : Int) < (t : Int) := by omega
            have hidx : (0 : Int) ≤ (j : Int) ∧ (j : Int) < (t : Int) := by omega
            clear hok hfk hv0 hoj hvd
            by_cases hV : V < 65536
            · have hO : moreO bs V = some (bs, V) := if_pos hV
              rw [hO] at hfo hd0
              have hfb : f.bs = bs := congrArg Prod.fst hfo
              have hfp : f.p = V := congrArg Prod.snd hfo
              rw [hfp] at hc2
              rw [hfb] at hbf
              rw [show min 65536 V = V by omega] at hv1
              have hd1 : GOut.ok (some (bs, V)) = true := rfl
              rw [hd1] at hd0
              have hnn : f.n ≤ 9223372036854775807 := by have := hbf.1; omega
              have HNN := Lib.hid hnn
              have qv : decide ((V : Int) ≤ 65535) = true := decide_eq_true (by omega)
              clear hO hfo hfb hfp hd1 hnn
              have hdr : Below wr.heap.size wr wr.drew := ⟨rfl, rfl, rfl, Nat.le_refl _, fun _ _ => rfl⟩
              go_wp2_with fail
              refine region_pick (Below wr.heap.size wr) [(0, false, none), (1, false, none), (2, false, none), (3, false, none), (4, false, none), (5, false, none), (6, false, none), (7, false, none), (8, false, none), (9, false, none)] 10 (by kernel_rfl) (by kernel_rfl) (fun w w' h hb => h.trans (hb.mono h.size)) (hdr) ?_
              simp only [pickOps, List.getElem?_cons_zero, List.getElem?_cons_succ]
              repeat (first | (refine t_skip rfl ?_; (simp only [Act.put, List.setIfInBounds_toArray, List.set_cons_zero, List.set_cons_succ])) | (refine t_run ?_ rfl (fun w1 hw1 => ?_) ?_; rotate_left; (have r0 := hidx; have r1 := qv; have r2 := (hw1.cell (p := ⟨g9, o9 + j, none⟩) hg9).trans hd0; have r3 := (hw1.cell (p := ⟨g7, o7 + j, none⟩) hg7).trans hv1; go_simp; try (with_reducible rfl)); (simp only [Act.put, List.setIfInBounds_toArray, List.set_cons_zero, List.set_cons_succ])))
              intro w9 hb9
              simp only [List.drop_succ_cons, List.drop_zero]
              have hd9 := (hb9.cell (p := ⟨g9, o9 + j, none⟩) hg9).trans hd0
              have hv9 := (hb9.cell (p := ⟨g7, o7 + j, none⟩) hg7).trans hv1
              have hc09 := (hb9.cell (p := ⟨g8, o8 + j * 3, none⟩) hg8).trans hc0
              have hc19 := (hb9.cell (p := ⟨g8, o8 + j * 3 + 1, none⟩) hg8).trans hc1
              have hc29 := (hb9.cell (p := ⟨g8, o8 + j * 3 + 2, none⟩) hg8).trans hc2
              have hg79 := Nat.lt_of_lt_of_le hg7 hb9.size
              have hg89 := Nat.lt_of_lt_of_le hg8 hb9.size
              have hg99 := Nat.lt_of_lt_of_le hg9 hb9.size
              have hbf9 := hbf.keep hb9
              have hbj9 := hbj.out.trans (hb9.mono hbj.out.size)
              have hbw9 := HP7.out.2.2.2.1.trans (hbj9.mono HP7.out.2.2.2.1.size)
              have HB9 := Lib.hid (And.intro hbj9 hbw9)
              have hdr9 : Below w9.heap.size w9 w9.drew := ⟨rfl, rfl, rfl, Nat.le_refl _, fun _ _ => rfl⟩
              have hsa : ∀ A8 c8 w1, Below w9.heap.size w9 w1 → RB w1 A8 n bs → Calls Tryd.prog 12 #[.agg #[.slice f.a f.n f.c, .string ⟨#[]⟩], .agg #[.slice A8 n c8, .string ⟨#[]⟩]] w1 fun e w' => e = .returned (.bool true) ∧ Below w1.heap.size w1 w' := fun A8 c8 w1 h1 h2 => by
                have := sameAddr_c f.a A8 f.n n f.c c8 bs bs w1 (hbf9.keep h1) h2 HNN.out
                rw [decide_eq_true rfl] at this
                exact this
              have hwm : IntKind.i64.wrap (V : Int) = (V : Int) := by rw [IntKind.wrap_i64]; omega
              have hnm : (IntKind.i64.wrap (V : Int) != (V : Int)) = false := by rw [hwm]; simp
              clear hd0 hv1 hc0 hc1 hc2 hg7 hg8 hg9 hbf hb9 hbj9 hbw9 hdr qv
              go_wp2_with fail
              refine region_pick (Below w9.heap.size w9) [(0, false, none), (1, false, none), (2, false, none), (3, false, none), (4, false, none), (5, false, none), (6, false, none), (7, false, none), (8, false, none), (9, false, none), (10, false, none), (11, true, none), (12, false, none), (13, false, none), (14, false, none), (15, false, none), (16, false, none), (17, false, none), (18, false, none), (19, false, none), (20, false, none), (21, false, none), (22, false, none), (23, false, none), (24, false, none), (25, false, none), (26, false, none), (27, false, none)] 28 (by kernel_rfl) (by kernel_rfl) (fun w w' h hb => h.trans (hb.mono h.size)) (hdr9) ?_
              simp only [pickOps, List.getElem?_cons_zero, List.getElem?_cons_succ]
              repeat (first | (refine t_skip rfl ?_; (simp only [Act.put, List.setIfInBounds_toArray, List.set_cons_zero, List.set_cons_succ])) | (refine t_run ?_ rfl (fun w1 hw1 => ?_) ?_; rotate_left; (have r0 := hidx; have r1 := (hw1.cell (p := ⟨g9, o9 + j, none⟩) hg99).trans hd9; have r2 := (hw1.cell (p := ⟨g8, o8 + j * 3, none⟩) hg89).trans hc09; have r3 := (hw1.cell (p := ⟨g8, o8 + j * 3 + 1, none⟩) hg89).trans hc19; go_simp; try (with_reducible rfl)); (simp only [Act.put, List.setIfInBounds_toArray, List.set_cons_zero, List.set_cons_succ])))
              refine t_fresh ?_ ?_ (PlT n bs) (by rfl) (fun w1 hw1 => ?_) (fun v w w' h hb => h.keep hb) (fun w1 hw1 => ?_) ?_
              rotate_left 2
              (go_simp; refine ⟨?_, ?_⟩ <;> with_reducible rfl)
              (go_at_call 9; (with_reducible refine (plain_c A n c bs w1 ((hr.keep HB9.out.2).keep hw1) hR hn).mono ?_); rintro e w2 ⟨A8, c8, rfl, hown8, hb8⟩; exact ⟨_, rfl, ⟨A8, c8, rfl, RB.of_own hown8⟩, hb8⟩)
              rintro v8 ⟨-, -, A8, c8, rfl, -⟩
              (simp only [Act.put, List.setIfInBounds_toArray, List.set_cons_zero, List.set_cons_succ])
              repeat (first | (refine t_skip rfl ?_; (simp only [Act.put, List.setIfInBounds_toArray, List.set_cons_zero, List.set_cons_succ])) | (refine t_run ?_ rfl (fun w1 hw1 => ?_) ?_; rotate_left; (have r0 := hidx; have r1 := hwm; have r2 := hnm; have r3 := (hw1.1.cell (p := ⟨g8, o8 + j * 3 + 2, none⟩) hg89).trans hc29; have r4 := (hw1.1.cell (p := ⟨g7, o7 + j, none⟩) hg79).trans hv9; go_simp; try (with_reducible rfl)); (simp only [Act.put, List.setIfInBounds_toArray, List.set_cons_zero, List.set_cons_succ])) | (refine t_call ?_ ?_ ?_ rfl (fun w1 hw1 => ?_) (fun w1 hw1 => ?_) ?_; rotate_left 3; (have r0 := hidx; have r1 := hwm; have r2 := hnm; have r3 := (hw1.1.cell (p := ⟨g8, o8 + j * 3 + 2, none⟩) hg89).trans hc29; have r4 := (hw1.1.cell (p := ⟨g7, o7 + j, none⟩) hg79).trans hv9; go_simp; refine ⟨?_, ?_⟩ <;> with_reducible rfl); (first | (go_at_call 12; (with_reducible refine (hsa A8 c8 w1 hw1.1 hw1.2.rb).mono ?_); rintro e w2 ⟨rfl, hb⟩; refine ⟨?_, hb⟩; with_reducible rfl) | (go_at_call 12; (refine (hsa A8 c8 w1 hw1.1 hw1.2.rb).mono ?_); rintro e w2 ⟨rfl, hb⟩; refine ⟨?_, hb⟩; with_reducible rfl)); (simp only [Act.put, List.setIfInBounds_toArray, List.set_cons_zero, List.set_cons_succ])))
              intro w10 ⟨hb10, hp10⟩
              simp only [List.drop_succ_cons, List.drop_zero]
              have hbE := HB9.out.1.trans (hb10.mono HB9.out.1.size)
              have HBE := Lib.hid hbE
              clear hbE hb10 hp10 hsa hd9 hv9 hc09 hc19 hc29 hbf9 hwm hnm hdr9
              go_wp2
              go_roundw
              case rel => exact ⟨j + 1, by go_num, by omega, HBE⟩
              case measure => simp [intOf]; omega
            · have hO : moreO bs V = none := if_neg hV
              rw [hO] at hd0
              rw [show min 65536 V = 65536 by omega] at hv1
              rw [show GOut.ok none = false from rfl] at hd0
              have hdr : Below wr.heap.size wr wr.drew := ⟨rfl, rfl, rfl, Nat.le_refl _, fun _ _ => rfl⟩
              clear hO hfo hbf hc0 hc1 hc2
              go_wp2_with fail
              refine region_pick (Below wr.heap.size wr) [(0, false, none), (1, false, none), (2, false, none), (3, false, none), (4, false, none), (5, false, none), (6, false, none), (7, false, none), (8, false, none), (9, false, none)] 10 (by kernel_rfl) (by kernel_rfl) (fun w w' h hb => h.trans (hb.mono h.size)) (hdr) ?_
              simp only [pickOps, List.getElem?_cons_zero, List.getElem?_cons_succ]
              repeat (first | (refine t_skip rfl ?_; (simp only [Act.put, List.setIfInBounds_toArray, List.set_cons_zero, List.set_cons_succ])) | (refine t_run ?_ rfl (fun w1 hw1 => ?_) ?_; rotate_left; (have r0 := hidx; have r1 := (hw1.cell (p := ⟨g9, o9 + j, none⟩) hg9).trans hd0; have r2 := (hw1.cell (p := ⟨g7, o7 + j, none⟩) hg7).trans hv1; go_simp; try (with_reducible rfl)); (simp only [Act.put, List.setIfInBounds_toArray, List.set_cons_zero, List.set_cons_succ])))
              intro w9 hb9
              simp only [List.drop_succ_cons, List.drop_zero]
              have hd9 := (hb9.cell (p := ⟨g9, o9 + j, none⟩) hg9).trans hd0
              have hg99 := Nat.lt_of_lt_of_le hg9 hb9.size
              have hbj9 := hbj.out.trans (hb9.mono hbj.out.size)
              have HB9 := Lib.hid hbj9
              have hdr9 : Below w9.heap.size w9 w9.drew := ⟨rfl, rfl, rfl, Nat.le_refl _, fun _ _ => rfl⟩
              clear hd0 hv1 hb9 hbj9 hdr
              go_wp2_with fail
              refine region_pick (Below w9.heap.size w9) [(0, false, none), (1, false, none), (2, false, none), (3, false, none), (4, false, none), (5, false, none), (6, false, none), (7, false, none), (8, false, none), (9, false, none), (10, false, none), (11, false, none), (12, false, none), (13, false, none), (14, false, none), (15, false, none), (16, false, none), (17, false, none), (18, false, none), (19, false, none), (20, false, none), (21, false, none), (22, false, none), (23, false, none), (24, false, none), (25, false, none), (26, false, none), (27, false, none)] 28 (by kernel_rfl) (by kernel_rfl) (fun w w' h hb => h.trans (hb.mono h.size)) (hdr9) ?_
              simp only [pickOps, List.getElem?_cons_zero, List.getElem?_cons_succ]
              repeat (first | (refine t_skip rfl ?_; (simp only [Act.put, List.setIfInBounds_toArray, List.set_cons_zero, List.set_cons_succ])) | (refine t_run ?_ rfl (fun w1 hw1 => ?_) ?_; rotate_left; (have r0 := hidx; have r1 := (hw1.cell (p := ⟨g9, o9 + j, none⟩) hg99).trans hd9; go_simp; try (with_reducible rfl)); (simp only [Act.put, List.setIfInBounds_toArray, List.set_cons_zero, List.set_cons_succ])))
              intro w10 hb10
              simp only [List.drop_succ_cons, List.drop_zero]
              have hbE := HB9.out.trans (hb10.mono HB9.out.size)
              have HBE := Lib.hid hbE
              clear hbE hb10 hd9 hdr9
              go_wp2
              go_roundw
              case rel => exact ⟨j + 1, by go_num, by omega, HBE⟩
              case measure => simp [intOf]; omega
          · obtain rfl : j = t := by omega
            have hbe := HP7.out.2.2.2.1.trans (hbj.out.mono HP7.out.2.2.2.1.size)
            go_wp2
            go_returns
            exact ⟨rfl, hbe⟩
  · have hf : (n == 4 || n == 16) = false := by simpa using hl
    rw [hf]
    go_wp2_with fail
    go_returns
    exact ⟨rfl, hb0⟩
end Go.Proofs.YtaofindlomkbbaaDoor
