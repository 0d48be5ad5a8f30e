/-
  The texts of addresses with ports, with another mark: ParseAddrPort's error.
-/
import Derived.Test.YtaofindlomkbbaaDoorGCut
namespace Go.Proofs.YtaofindlomkbbaaDoor
open Go Go.RowKit
set_option maxRecDepth 100000 in
set_option maxHeartbeats 8000000 in
/-- ParseAddr at a text that begins with a percent sign. -/
theorem parseAddr_pct (s : ByteArray) (z : ZP) (w : World) (h0 : 0 < s.size) (hs : s.size ≤ 4611686018427387904) (h37 : (s[0]'h0).toNat = 37) :
    Calls Tryd.prog 27 #[.string s] w (AddrPost w z none) := by
  have h0' : (0 : Int) < (s.size : Int) := by omega
  obtain ⟨R, hR⟩ : ∃ R : Option (List UInt8), R = none := ⟨_, rfl⟩
  rw [← hR]
  have HIS : ∀ y, Hid (AddrIs z R (.int .u64 0) (.int .u64 0) (.pointer none) (.iface 89 y)) := fun y => Lib.hid (show AddrIs z R _ _ _ _ from hR.symm ▸ (⟨rfl, rfl, rfl, y, rfl⟩ : AddrIs z none _ _ _ _))
  clear hR
  go_enter Tryd.func27, Tryd.ntmps27
  go_wp2_with fail
  go_loopw [4] (fun v4 wr => Hid (Blk wr w.heap.size 54 #[.int .u64 0, .int .u64 0, .pointer none] ∧ Below w.heap.size w wr) ∧ v4 = .int .i64 0) (fun v4 _ => s.size - (intOf v4).toNat)
  case atStart => exact ⟨⟨heap_alloc_new w _, (Below.refl _ _).alloc (Nat.le_refl _) _⟩, rfl⟩
  case round =>
    obtain ⟨hw, rfl⟩ := hrel
    have hb0 := hw.out.1
    have r0 := hb0.cell
    have f0 := hb0.free
    obtain ⟨x, hx⟩ : ∃ x, x = (s[0]'h0).toNat := ⟨_, rfl⟩
    have hx' : (s[0]'h0).toNat = x := hx.symm
    have hx1 : ((x : Int) == 46) = false := by rw [beq_eq_false_iff_ne]; omega
    have hx2 : ((x : Int) == 58) = false := by rw [beq_eq_false_iff_ne]; omega
    have hx3 : ((x : Int) == 37) = true := by rw [beq_iff_eq]; omega
    clear hx h37
    go_wp2_with (with_reducible exact ret35 hw.out.1 hw.out.2 (HIS _).out)
set_option maxRecDepth 100000 in
set_option maxHeartbeats 8000000 in
theorem pp_bad (s ip pt : ByteArray) (v6 : Bool) (u : Nat) (z : ZP) (w : World) (hz : Zs w z) (hp : pt.size ≤ 4611686018427387904)
    (hsp : ∀ w, Calls Tryd.prog 23 #[.string s] w fun e w' => e = .returned (.tuple #[.string ip, .string pt, .bool v6, .nilIface]) ∧ Below w.heap.size w w')
    (hu : Lib.parseUintB 16 pt.data.toList = .ok u) (hu2 : u < 65536) (hpa : ∀ w, Zs w z → Calls Tryd.prog 27 #[.string ip] w (AddrPost w z none)) :
    Calls Tryd.prog 17 #[.string s] w fun e w' => PPErr e ∧ Below w.heap.size w w' := by
  have HX := Lib.hid (boxes2 (x0 := pa0) (x1 := pa0) w 56 56)
  have hu3 : (u : Int) < 65536 := by omega
  have hu4 : (u : Int) % 65536 = u := by omega
  have HU := Lib.hid hu
  clear hu
  go_enter Tryd.func17, Tryd.ntmps17
  go_wp2_with fail
  refine (hsp _).mono ?_
  rintro e w2 ⟨rfl, hb2⟩
  have hB := HX.out.keep hb2
  have HB := Lib.hid hB
  clear hb2 hB HX
  go_wp2_with fail
  refine (Tryd.strconv_ParseUint_10_at16_ok pt (by omega) u HU.out w2).mono ?_
  rintro e w3 ⟨rfl, hw3⟩
  have hb3 : Below w2.heap.size w2 w3 := by
    rcases hw3 with rfl | rfl
    · exact Below.refl _ _
    · exact Lib.bytesWorld_below _ _ _
  have hB3 := HB.out.keep hb3
  have b1 := hB3.b1
  have f1 := hB3.f1
  have HB3 := Lib.hid hB3
  clear hb3 hB3 hw3 HB
  go_wp2_with fail
  have hB4 := HB3.out.put 1 pa0 rfl 3 (.int .u16 u)
  have HB4 := Lib.hid hB4
  clear hB4 b1 f1 HB3
  refine (hpa _ (hz.keep HB4.out.below)).mono ?_
  rintro e w5 ⟨hb5, y, rfl⟩
  have hB5 := HB4.out.keep hb5
  have b0 := hB5.b0
  have f0 := hB5.f0
  have b1 := hB5.b1
  have f1 := hB5.f1
  have hB6 : Boxes w [pa0, #[.int .u64 0, .int .u64 0, .pointer none, .int .u16 u]] _ := ((hB5.put 1 _ rfl 0 (.int .u64 0)).put 1 _ rfl 1 (.int .u64 0)).put 1 _ rfl 2 (.pointer none)
  have HB6 := Lib.hid hB6
  clear hb5 hB5 HB4 hB6
  go_wp2_with (with_reducible exact ret17 HB6.out ⟨PPErr.of, low_put4 HB6.out.below (Nat.le_refl _)⟩)
/-- A text that ParseAddrPort refuses. -/
def Refused (t : ByteArray) : Prop := ∀ z w0, Zs w0 z → GReads z w0 t none
theorem Refused.bad {l : List UInt8} (h : Bad l) (hlen : l.length ≤ 4611686018427387904) : Refused (ba l) := fun z w0 _ => bad_reads h hlen z w0
/-- Another byte in place of one. -/
def markT (l : List UInt8) (i : Nat) (m : UInt8) : List UInt8 := l.take i ++ m :: l.drop (i + 1)
theorem mark_split (P Q : List UInt8) (x m : UInt8) : markT (P ++ x :: Q) P.length m = P ++ m :: Q := by
  unfold markT
  rw [List.take_left]
  congr 2
  rw [show P ++ x :: Q = (P ++ [x]) ++ Q by simp, show P.length + 1 = (P ++ [x]).length by simp, List.drop_left]
theorem mark_len {l : List UInt8} {i : Nat} (m : UInt8) (hi : i < l.length) : (markT l i m).length = l.length := by
  unfold markT
  rw [List.length_append, List.length_take, List.length_cons, List.length_drop]
  omega
/-- In the place of the colon. -/
theorem mark_colon {bs D : List UInt8} (hl : isLen bs.length) (hD : (58 : UInt8) ∉ D) {m : UInt8} (hm : m ≠ 58) : Bad (gA bs ++ m :: D) := by
  by_cases h58 : (58 : UInt8) ∈ gA bs
  · by_cases h4 : bs.length = 4
    · rw [show gA bs = Tx.adT bs from if_pos h4] at h58
      exact absurd h58 (no58_v4 h4)
    · right
      obtain ⟨A, B, e, hB⟩ := last_split h58
      obtain ⟨n1, n2, n3⟩ := no_close (bs := bs) (A := A) (B := B) (R := []) hl h4 (by rw [List.append_nil]; exact e)
      refine ⟨A, B ++ m :: D, by rw [e]; simp, ?_, n3, .inr ⟨n2, .inr fun h => n1 (List.mem_of_getLast? h)⟩⟩
      intro h
      rcases List.mem_append.1 h with h | h
      · exact hB h
      · rcases List.mem_cons.1 h with h | h
        · exact hm h.symm
        · exact hD h
  · left
    intro h
    rcases List.mem_append.1 h with h | h
    · exact h58 h
    · rcases List.mem_cons.1 h with h | h
      · exact hm h.symm
      · exact hD h
/-- In the place of the closing bracket. -/
theorem mark_close {T D : List UInt8} (hD : (58 : UInt8) ∉ D) {m : UInt8} (hm : m ≠ 93) : Bad ((91 :: T) ++ m :: 58 :: D) := by
  right
  refine ⟨(91 :: T) ++ [m], D, by simp, hD, by simp, .inr ⟨rfl, .inr ?_⟩⟩
  rw [List.getLast?_append]
  simp [hm]
/-- In the place of the opening bracket. -/
theorem mark_open {bs D : List UInt8} (hl : isLen bs.length) (hD : D ≠ []) (hd : Digs D) (hv : numA 0 D < 65536) (hlen : D.length ≤ 65536) {m : UInt8} (hm : m ≠ 91) : Refused (ba (m :: (Tx.adT bs ++ 93 :: 58 :: D))) := by
  intro z w0 hz
  refine ⟨fun p hp => (by cases hp), fun w hb => ?_⟩
  have hle := adT_le hl
  have hDp : 0 < D.length := List.length_pos_iff.2 hD
  obtain ⟨I, hI⟩ : ∃ I, I = m :: (Tx.adT bs ++ [93]) := ⟨_, rfl⟩
  have hIl : I.length = (Tx.adT bs).length + 2 := by rw [hI]; simp
  have hl1 : m :: (Tx.adT bs ++ 93 :: 58 :: D) = I ++ 58 :: D := by rw [hI]; simp
  rw [hl1]
  have hlx : lix (ba (I ++ 58 :: D)).data.toList 58 (ba (I ++ 58 :: D)).size = I.length := by
    rw [ba_size, ba_list]; exact lix_all (digs_no58 hd)
  have hsz : (ba (I ++ 58 :: D)).size = I.length + 1 + D.length := by rw [ba_size]; simp; omega
  have hin : 0 < (ba I).size := by rw [ba_size]; omega
  have h0 : (ba I)[0]'hin = m := by rw [ba_at]; simp [hI]
  have hx : ((ba I)[0]'hin).toNat ≠ 91 := fun h => hm (by rw [← h0]; exact UInt8.toNat_inj.1 h)
  refine pp_bad _ (ba I) (ba D) false (numA 0 D) z w (hz.keep hb) (by rw [ba_size]; omega) (fun w => ?_) (by rw [ba_list]; exact ub_ok hD hd hv) hv (fun w hz => ?_)
  · exact split_plain _ (ba I) (ba D) I.length w (by rw [hsz]; omega) hlx (ba_pre _ _) (ba_suf _ _ _) (ba_size _) (by rw [hsz, ba_size]) hin (by rw [ba_size]; exact hDp) hx
  · by_cases h37 : m = 37
    · exact parseAddr_pct (ba I) z w hin (by rw [ba_size]; omega) (by rw [h0, h37]; rfl)
    · have h := parseAddr_c (ba I) z w hz (by rw [ba_size]; omega) (by
        rw [ba_list, hI]
        intro h
        rcases List.mem_cons.1 h with h | h
        · exact h37 h.symm
        · rcases List.mem_append.1 h with h | h
          · exact (gA_no hl).1 h
          · simp at h)
      have hb : Tx.pA (ba I).data.toList = none := by
        by_cases hn : Tx.pA (ba I).data.toList = none
        · exact hn
        · exact absurd rfl (adB_n (Tx.pA_bad _ hn 93 (by rw [ba_list, hI]; simp))).2.1
      rw [hb] at h
      exact h
/-- The places of the marks. -/
def marksAt (bs : List UInt8) : List Nat := if bs.length = 16 then [(gA bs).length, (gA bs).length - 1, 0] else [(gA bs).length]
theorem mark_refused {bs : List UInt8} {u : Nat} (hl : isLen bs.length) (hu : u < 65536) {p : Nat} (hp : p ∈ marksAt bs) {m : UInt8} (hm : (gT bs u)[p]? ≠ some m) : p < (gT bs u).length ∧ Refused (ba (markT (gT bs u) p m)) := by
  have hd := dd_digs u
  have hne := dd_ne u
  have hdl := dd_len hu
  have hn := dd_num u
  have hle := adT_le hl
  have hgl := gA_len (bs := bs)
  rw [gT_gA] at hm ⊢
  generalize Lib.decDigits u = D at *
  have h58 := digs_no58 hd
  have hD : 0 < D.length := List.length_pos_iff.2 hne
  have hc : (gA bs ++ 58 :: D)[(gA bs).length]? ≠ some m → (gA bs).length < (gA bs ++ 58 :: D).length ∧ Refused (ba (markT (gA bs ++ 58 :: D) (gA bs).length m)) := fun hm => by
    refine ⟨by simp, ?_⟩
    rw [mark_split]
    rw [List.getElem?_append_right (Nat.le_refl _), Nat.sub_self, List.getElem?_cons_zero] at hm
    exact Refused.bad (mark_colon hl h58 (fun h => hm (by rw [h]))) (by rw [List.length_append, List.length_cons]; split at hgl <;> omega)
  unfold marksAt at hp
  by_cases h16 : bs.length = 16
  · rw [if_pos h16] at hp
    have h4 : ¬ bs.length = 4 := by omega
    have hA : gA bs = 91 :: (Tx.adT bs ++ [93]) := if_neg h4
    rcases List.mem_cons.1 hp with rfl | hp
    · exact hc hm
    · rcases List.mem_cons.1 hp with rfl | hp
      · have e : gA bs ++ 58 :: D = (91 :: Tx.adT bs) ++ 93 :: 58 :: D := by rw [hA]; simp
        have el : (gA bs).length - 1 = (91 :: Tx.adT bs).length := by rw [hA]; simp
        rw [e, el] at hm ⊢
        rw [mark_split]
        rw [List.getElem?_append_right (Nat.le_refl _), Nat.sub_self, List.getElem?_cons_zero] at hm
        refine ⟨by simp, Refused.bad (mark_close h58 (fun h => hm (by rw [h]))) (by simp; omega)⟩
      · obtain rfl : p = 0 := by simpa using hp
        have e : gA bs ++ 58 :: D = ([] : List UInt8) ++ 91 :: (Tx.adT bs ++ 93 :: 58 :: D) := by rw [hA]; simp
        rw [e] at hm ⊢
        have := mark_split [] (Tx.adT bs ++ 93 :: 58 :: D) 91 m
        rw [show ([] : List UInt8).length = 0 from rfl] at this
        rw [this]
        refine ⟨by simp, ?_⟩
        exact mark_open hl hne hd (by rw [hn]; exact hu) (by omega) (fun h => hm (by rw [h]; rfl))
  · rw [if_neg h16] at hp
    obtain rfl : p = (gA bs).length := by simpa using hp
    exact hc hm
end Go.Proofs.YtaofindlomkbbaaDoor
