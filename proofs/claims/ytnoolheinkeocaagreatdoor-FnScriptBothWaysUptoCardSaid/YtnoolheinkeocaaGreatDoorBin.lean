/-
  Contracts: BEAppendUint32, BEAppendUint64, Addr.AppendBinary, Prefix.AppendBinary at valid prefixes.
-/
import Derived.Test.YtnoolheinkeocaaGreatDoorStrs
import Derived.Test.YtnoolheinkeocaaGreatDoorFromPf
namespace Go.Proofs.YtnoolheinkeocaaGreatDoor
open Go Go.RowKit
section
variable {B : Nat} {W0 W1 w : World} {v : Value} {l : List UInt8} {ops : Array Oper} {rest : List Oper} {o : Oper} {a : Act} {Q : Exit → Act → World → Prop}
/-- append(b, x0, x1, ..): the new bytes lie in the block that was laid last. -/
theorem app_lit (i : TypeInfo) (hi : Tryz.prog.info? 5 = some i) (hz : i.zero = some (.int .u8 0)) (hsize : i.size = 1) (hby : i.bytes = 1) (hgd : o.guard = none) (s x : Operand)
    (ho : o.op = .call { callee := .builtin .append, args := #[s, x], argTypes := #[23, 23] }) (hs : a.eval s = v) (l' : List UInt8) (cs : List Value) (hcs : Lib.byteCells l' = cs) (hb : TB B W0 W1 w v l) (k c : Nat) (hk : l'.length = k)
    (hx : a.eval x = .slice (some ⟨w.heap.size, 0, none⟩) k c) (hlen : l.length + k ≤ 140737488355328)
    (h : ∀ v' w', TB B W0 W1 w' v' (l ++ l') → wpList Tryz.prog ops Q rest (a.put o.dst v') w') : wpList Tryz.prog ops Q (o :: rest) a (w.alloc (.cells cs.toArray 5)) := by
  subst hcs hk
  have hb' := hb.alloc (.cells (Lib.byteCells l').toArray 5)
  refine wpList_append_ownF _ hgd s x 23 ho B 5 i (.int .u8 0) 1 1 Tryz.underlying23 hi hz hsize hby rfl (by decide) v _ _ hs hb'.own ⟨w.heap.size, 0, none⟩ l'.length c (Lib.byteCells l') hx (by rw [byteCells_len, Nat.mul_one]) ?_ ?_ (by unfold maxLen; omega) (by omega) hb'.base ?_
  · intro j u hj
    rw [add_zero_off, Nat.zero_add, World.cell?_alloc_new]
    simpa using hj
  · intro u hu; simp [Lib.byteCells] at hu; obtain ⟨b, _, rfl⟩ := hu; rfl
  · intro v' w' ho' hg _
    refine h v' w' (hb'.grown ?_ hg)
    rw [List.length_append, show Lib.byteCells (l ++ l') = Lib.byteCells l ++ Lib.byteCells l' by simp [Lib.byteCells]]
    exact ho'
end
theorem be_len (k v : Nat) : (Lib.beBytes k v).length = k := by
  induction k generalizing v with
  | zero => rfl
  | succ k ih => rw [beBytes_succ, List.length_append, ih]; rfl
set_option maxHeartbeats 8000000 in
set_option maxRecDepth 100000 in
theorem be32a_c (B : Nat) (v0 : Value) (t : List UInt8) (v : Nat) (W0 W1 w : World) (hb : TB B W0 W1 w v0 t) (hv : v < 4294967296) (hlen : t.length + 4 ≤ 140737488355328) :
    Calls Tryz.prog 45 #[v0, .int .u32 v] w fun e w' => ∃ v', e = .returned v' ∧ TB B W0 W1 w' v' (t ++ Lib.beBytes 4 v) := by
  obtain ⟨i0, hi, hz0, hz1, hz2⟩ := info_parts infoU8
  have e0 : ((v % 256 : Nat) : Int) = (v : Int) % 256 := by omega
  have e1 : ((v / 256 % 256 : Nat) : Int) = (v : Int) / 256 % 256 := by omega
  have e2 : ((v / 256 / 256 % 256 : Nat) : Int) = (v : Int) / 65536 % 256 := by omega
  have e3 : ((v / 256 / 256 / 256 % 256 : Nat) : Int) = (v : Int) / 16777216 := by omega
  have hb1 : Lib.byteCells (Lib.beBytes 4 v) = [Value.int .u8 ((v : Int) / 16777216), Value.int .u8 ((v : Int) / 65536 % 256), Value.int .u8 ((v : Int) / 256 % 256), Value.int .u8 ((v : Int) % 256)] := by
    simp only [Lib.byteCells, Lib.beBytes, Lib.leBytes, List.reverse_cons, List.reverse_nil, List.nil_append, List.cons_append, List.map, Lib.toUInt8_mod, e0, e1, e2, e3]
  have HB := Lib.hid hb1
  have HT := Lib.hid hb
  clear hb1 e0 e1 e2 e3 hb
  go_enter Tryz.func45, Tryz.ntmps45
  go_wp2_with (at_builtin; (refine app_lit i0 hi hz0 hz1 hz2 rfl _ _ rfl rfl _ _ HB.out HT.out 4 4 (be_len _ _) rfl hlen ?_; intro v1 w1 h1; have H1 := Lib.hid h1; clear h1))
  go_returns
  exact ⟨_, rfl, H1.out⟩
set_option maxHeartbeats 8000000 in
set_option maxRecDepth 100000 in
theorem be64a_c (B : Nat) (v0 : Value) (t : List UInt8) (v : Nat) (W0 W1 w : World) (hb : TB B W0 W1 w v0 t) (hv : v < 18446744073709551616) (hlen : t.length + 8 ≤ 140737488355328) :
    Calls Tryz.prog 46 #[v0, .int .u64 v] w fun e w' => ∃ v', e = .returned v' ∧ TB B W0 W1 w' v' (t ++ Lib.beBytes 8 v) := by
  obtain ⟨i0, hi, hz0, hz1, hz2⟩ := info_parts infoU8
  have e0 : ((v % 256 : Nat) : Int) = (v : Int) % 256 := by omega
  have e1 : ((v / 256 % 256 : Nat) : Int) = (v : Int) / 256 % 256 := by omega
  have e2 : ((v / 256 / 256 % 256 : Nat) : Int) = (v : Int) / 65536 % 256 := by omega
  have e3 : ((v / 256 / 256 / 256 % 256 : Nat) : Int) = (v : Int) / 16777216 % 256 := by omega
  have e4 : ((v / 256 / 256 / 256 / 256 % 256 : Nat) : Int) = (v : Int) / 4294967296 % 256 := by omega
  have e5 : ((v / 256 / 256 / 256 / 256 / 256 % 256 : Nat) : Int) = (v : Int) / 1099511627776 % 256 := by omega
  have e6 : ((v / 256 / 256 / 256 / 256 / 256 / 256 % 256 : Nat) : Int) = (v : Int) / 281474976710656 % 256 := by omega
  have e7 : ((v / 256 / 256 / 256 / 256 / 256 / 256 / 256 % 256 : Nat) : Int) = (v : Int) / 72057594037927936 := by omega
  have hb1 : Lib.byteCells (Lib.beBytes 8 v) = [Value.int .u8 ((v : Int) / 72057594037927936), Value.int .u8 ((v : Int) / 281474976710656 % 256), Value.int .u8 ((v : Int) / 1099511627776 % 256), Value.int .u8 ((v : Int) / 4294967296 % 256), Value.int .u8 ((v : Int) / 16777216 % 256), Value.int .u8 ((v : Int) / 65536 % 256), Value.int .u8 ((v : Int) / 256 % 256), Value.int .u8 ((v : Int) % 256)] := by
    simp only [Lib.byteCells, Lib.beBytes, Lib.leBytes, List.reverse_cons, List.reverse_nil, List.nil_append, List.cons_append, List.map, Lib.toUInt8_mod, e0, e1, e2, e3, e4, e5, e6, e7]
  have HB := Lib.hid hb1
  have HT := Lib.hid hb
  clear hb1 e0 e1 e2 e3 e4 e5 e6 e7 hb
  go_enter Tryz.func46, Tryz.ntmps46
  go_wp2_with (at_builtin; (refine app_lit i0 hi hz0 hz1 hz2 rfl _ _ rfl rfl _ _ HB.out HT.out 8 8 (be_len _ _) rfl hlen ?_; intro v1 w1 h1; have H1 := Lib.hid h1; clear h1))
  go_returns
  exact ⟨_, rfl, H1.out⟩
/-- The bytes of an address as the library has it. -/
def ipB (h l : Nat) : Option Bool → List UInt8
  | none => []
  | some false => Lib.beBytes 4 (l % 4294967296)
  | some true => Lib.beBytes 8 h ++ Lib.beBytes 8 l
theorem ipB_ad {bs : List UInt8} (hl : isLen bs.length) : ipB (adOf bs).h (adOf bs).l (adOf bs).k = bs := by
  rcases hl with h | h
  · rw [ad4 h]
    have h1 := beNat_lt bs
    rw [h, pow4] at h1
    show Lib.beBytes 4 ((281470681743360 + Lib.beNat bs) % 4294967296) = bs
    rw [show (281470681743360 + Lib.beNat bs) % 4294967296 = Lib.beNat bs by omega, ← h]
    exact beBytes_beNat bs
  · have e : adOf bs = ⟨Lib.beNat (bs.take 8), Lib.beNat (bs.drop 8), some true⟩ := by unfold adOf; rw [if_neg (by omega), if_pos h]
    rw [e]
    show Lib.beBytes 8 (Lib.beNat (bs.take 8)) ++ Lib.beBytes 8 (Lib.beNat (bs.drop 8)) = bs
    have h1 := beBytes_beNat (bs.take 8)
    have h2 := beBytes_beNat (bs.drop 8)
    rw [show (bs.take 8).length = 8 by simp; omega] at h1
    rw [show (bs.drop 8).length = 8 by simp; omega] at h2
    rw [h1, h2, List.take_append_drop]
set_option maxRecDepth 100000 in
set_option maxHeartbeats 8000000 in
theorem adB4_c (B : Nat) (v : Value) (t : List UInt8) (h l : Nat) (z : ZP) (W0 W1 w : World) (hb : TB B W0 W1 w v t) (hz : Zs W0 z) (hWB : W0.heap.size ≤ B) (hlen : t.length + 16 ≤ 140737488355328) :
    Calls Tryz.prog 29 #[.agg #[.int .u64 h, .int .u64 l, .pointer (z.ptr (some false))], v] w fun e w' => ∃ v', e = .returned (.tuple #[v', .nilIface]) ∧ TB B W0 W1 w' v' (t ++ ipB h l (some false)) := by
  have hz1 := hz.keep (hb.low.mono hWB)
  obtain ⟨s0, s1, s2, q4, q6, z4, z6, z0, hne, hne', p4, p6⟩ := hz1.lay
  have h1 := hb.alloc (.cells #[.int .u64 h, .int .u64 l, .pointer (z.ptr (some false))] 52)
  have H1 := Lib.hid h1
  have hl : l % 4294967296 < 4294967296 := Nat.mod_lt _ (by omega)
  clear hb hz hz1 h1
  rw [ptr4] at H1 ⊢
  go_enter Tryz.func29, Tryz.ntmps29
  go_wp2_with fail
  refine (be32a_c B v t (l % 4294967296) W0 W1 _ H1.out hl (by omega)).mono ?_
  rintro e w2 ⟨v2, rfl, h2⟩
  have H2 := Lib.hid h2
  clear h2 H1
  go_wp2
  go_returns
  exact ⟨_, rfl, H2.out⟩
set_option maxRecDepth 100000 in
set_option maxHeartbeats 8000000 in
theorem adB6_c (B : Nat) (v : Value) (t : List UInt8) (h l : Nat) (z : ZP) (W0 W1 w : World) (hb : TB B W0 W1 w v t) (hz : Zs W0 z) (hWB : W0.heap.size ≤ B) (hlen : t.length + 16 ≤ 140737488355328) (hh : h < 18446744073709551616) (hl : l < 18446744073709551616) :
    Calls Tryz.prog 29 #[.agg #[.int .u64 h, .int .u64 l, .pointer (z.ptr (some true))], v] w fun e w' => ∃ v', e = .returned (.tuple #[v', .nilIface]) ∧ TB B W0 W1 w' v' (t ++ ipB h l (some true)) := by
  obtain ⟨i0, hi, hz0, hz1', hz2⟩ := info_parts infoU8
  have hz1 := hz.keep (hb.low.mono hWB)
  obtain ⟨s0, s1, s2, q4, q6, z4, z6, z0, hne, hne', p4, p6⟩ := hz1.lay
  have HZ := Lib.hid hz
  have HB := Lib.hid hb
  clear hz hz1
  rw [ptr6]
  go_enter Tryz.func29, Tryz.ntmps29
  go_wp2_with fail
  have hx0 := heap_alloc_new w (.cells #[.int .u64 h, .int .u64 l, .pointer (some ⟨z.b6, z.o6, none⟩)] 52)
  have hb0 : Below w.heap.size w (w.alloc (.cells #[.int .u64 h, .int .u64 l, .pointer (some ⟨z.b6, z.o6, none⟩)] 52)) := (Below.refl _ _).alloc (Nat.le_refl _) _
  generalize w.alloc (.cells #[.int .u64 h, .int .u64 l, .pointer (some ⟨z.b6, z.o6, none⟩)] 52) = w1 at *
  obtain ⟨g, hg⟩ : ∃ g, g = w.heap.size := ⟨_, rfl⟩
  rw [← hg] at hx0 ⊢
  have hbx : Blk w1 g 52 #[.int .u64 h, .int .u64 l, .pointer (some ⟨z.b6, z.o6, none⟩)] := hx0
  have hp1 := HB.out.below hb0
  have h1 := hp1.anew
  have HP := Lib.hid hp1
  clear hx0 hg hb0 hb s0 s1 s2 q4 q6 z4 z6 z0 hne hne' p4 p6 HB hp1
  refine (be64a_c B v t h W0 w1 w1 h1 hh (by omega)).mono ?_
  rintro e w2 ⟨v2, rfl, h2⟩
  have r2 := (h2.blk hbx (by decide)).cell
  clear h1
  go_wp2_with fail
  refine (be64a_c B v2 _ l W0 w1 w2 h2 hl (by rw [List.length_append, be_len]; omega)).mono ?_
  rintro e w3 ⟨v3, rfl, h3⟩
  have r3 := (h3.blk hbx (by decide)).cell
  clear h2 r2
  have hz3 := HZ.out.keep (h3.low.mono hWB)
  have HZ3 := Lib.hid hz3
  clear hz3
  go_wp2_with fail
  have hzc := zone_c h l (some true) z w3 HZ3.out
  rw [ptr6] at hzc
  refine hzc.mono ?_
  rintro e w4 ⟨rfl, b4⟩
  have h4 := h3.below b4
  clear h3 b4 r3 hzc
  go_wp2_with (at_builtin; (refine app_text i0 hi hz0 hz1' hz2 rfl _ _ rfl rfl ⟨#[]⟩ h4 rfl (by rw [List.length_append, List.length_append, be_len, be_len]; show _ + 0 ≤ _; omega) ?_; intro v5 w5 h5; have H5 := Lib.hid h5; clear h5 h4))
  go_wp2
  go_returns
  refine ⟨_, rfl, HP.out.back ?_⟩
  have hx := H5.out
  simpa [ipB, List.append_assoc] using hx
theorem adB_c (B : Nat) (v : Value) (t : List UInt8) (bs : List UInt8) (z : ZP) (W0 W1 w : World) (hb : TB B W0 W1 w v t) (hz : Zs W0 z) (hWB : W0.heap.size ≤ B) (hlen : t.length + 16 ≤ 140737488355328) (hl : isLen bs.length) :
    Calls Tryz.prog 29 #[.agg #[.int .u64 (adOf bs).h, .int .u64 (adOf bs).l, .pointer (z.ptr (adOf bs).k)], v] w fun e w' => ∃ v', e = .returned (.tuple #[v', .nilIface]) ∧ TB B W0 W1 w' v' (t ++ bs) := by
  have h0 := ipB_ad hl
  obtain ⟨b1, b2⟩ := adOf_lt bs
  rcases hl with hl | hl
  · have e : (adOf bs).k = some false := by rw [ad4 hl]
    have := adB4_c B v t (adOf bs).h (adOf bs).l z W0 W1 w hb hz hWB hlen
    rw [e] at h0 ⊢
    rwa [h0] at this
  · have e : (adOf bs).k = some true := by rw [ad16 hl]
    have := adB6_c B v t (adOf bs).h (adOf bs).l z W0 W1 w hb hz hWB hlen b1 b2
    rw [e] at h0 ⊢
    rwa [h0] at this
set_option maxRecDepth 100000 in
set_option maxHeartbeats 8000000 in
theorem pfAB_c (B : Nat) (v : Value) (t : List UInt8) (bs : List UInt8) (k : Nat) (z : ZP) (W0 W1 w : World) (hb : TB B W0 W1 w v t) (hz : Zs W0 z) (hWB : W0.heap.size ≤ B) (hlen : t.length + 17 ≤ 140737488355328) (hl : isLen bs.length) (hk : k ≤ 8 * bs.length) :
    Calls Tryz.prog 13 #[.agg #[.int .u64 (adOf bs).h, .int .u64 (adOf bs).l, .pointer (z.ptr (adOf bs).k), .int .u8 ((k : Int) + 1)], v] w fun e w' => ∃ v', e = .returned (.tuple #[v', .nilIface]) ∧ TB B W0 W1 w' v' (t ++ (bs ++ [UInt8.ofNat k])) := by
  obtain ⟨i0, hi, hz0, hz1', hz2⟩ := info_parts infoU8
  have hk128 : k ≤ 128 := by unfold isLen at hl; omega
  have hl16 : bs.length ≤ 16 := by unfold isLen at hl; omega
  generalize hH : (adOf bs).h = H
  generalize hL : (adOf bs).l = L
  generalize hK : (adOf bs).k = K
  have HAD := Lib.hid (And.intro hH (And.intro hL hK))
  have HZ := Lib.hid hz
  have HB := Lib.hid hb
  clear hz hb hH hL hK
  go_enter Tryz.func13, Tryz.ntmps13
  go_wp2_with fail
  have hx0 := heap_alloc_new w (.cells #[.int .u64 H, .int .u64 L, .pointer (z.ptr K), .int .u8 ((k : Int) + 1)] 54)
  have hb0 : Below w.heap.size w (w.alloc (.cells #[.int .u64 H, .int .u64 L, .pointer (z.ptr K), .int .u8 ((k : Int) + 1)] 54)) := (Below.refl _ _).alloc (Nat.le_refl _) _
  generalize w.alloc (.cells #[.int .u64 H, .int .u64 L, .pointer (z.ptr K), .int .u8 ((k : Int) + 1)] 54) = w1 at *
  obtain ⟨g, hg⟩ : ∃ g, g = w.heap.size := ⟨_, rfl⟩
  rw [← hg] at hx0 ⊢
  have hbx : Blk w1 g 54 #[.int .u64 H, .int .u64 L, .pointer (z.ptr K), .int .u8 ((k : Int) + 1)] := hx0
  have hp1 := HB.out.below hb0
  clear hx0 hg hb0 HB
  refine (pfAddr_c H L (z.ptr K) _ w1).mono ?_
  rintro e w2 ⟨rfl, b2⟩
  have hbx2 := hbx.below b2
  have hp2 := hp1.below b2
  clear b2 hbx hp1
  have HP2 := Lib.hid (And.intro hp2 hbx2)
  clear hp2 hbx2
  go_wp2_with fail
  refine (noZone_c H L K z w2 (HZ.out.keep (HP2.out.1.low.mono hWB))).mono ?_
  rintro e w3 ⟨rfl, b3⟩
  have hp3 := HP2.out.1.below b3
  have hbx3 := HP2.out.2.below b3
  have h3 := hp3.anew
  have HP3 := Lib.hid (And.intro hp3 h3)
  clear b3 HP2 hp3 h3
  go_wp2_with fail
  have hab := adB_c B v t bs z W0 w3 w3 HP3.out.2 HZ.out hWB (by omega) hl
  rw [HAD.out.1, HAD.out.2.1, HAD.out.2.2] at hab
  refine hab.mono ?_
  rintro e w4 ⟨v4, rfl, h4⟩
  have bx4 := h4.blk hbx3 (by decide)
  have r4 := bx4.cell
  clear hab hbx3
  go_wp2_with fail
  refine (pfBits2_c _ _ _ k hk128 w4).mono ?_
  rintro e w5 ⟨rfl, b5⟩
  have h5 := h4.below b5
  have u1 : IntKind.u8.wrap (k : Int) = k := by show (k : Int) % 256 = k; omega
  have u2 : (k : Int) = ((UInt8.ofNat k).toNat : Int) := by rw [UInt8.toNat_ofNat']; omega
  have HU := Lib.hid u2
  clear h4 b5 bx4 r4 u2
  go_wp2_with (at_builtin; (refine app_byte i0 hi hz0 hz1' hz2 rfl _ _ rfl rfl (UInt8.ofNat k) _ HU.out h5 rfl (by rw [List.length_append]; omega) ?_; intro v6 w6 h6; have H6 := Lib.hid h6; clear h6 h5))
  go_wp2
  go_returns
  refine ⟨_, rfl, HP3.out.1.back ?_⟩
  have hx := H6.out
  simpa [List.append_assoc] using hx
/-- The bytes of a prefix. -/
def pfB (p : List UInt8 × Nat) : List UInt8 := p.1 ++ [UInt8.ofNat p.2]
theorem pfB_le (p : List UInt8 × Nat) (hl : isLen p.1.length) : (pfB p).length ≤ 17 := by unfold pfB; rw [List.length_append]; unfold isLen at hl; simp; omega
set_option maxRecDepth 100000 in
set_option maxHeartbeats 8000000 in
theorem pfBinaries_c (R : Option Addr) (rn rc : Nat) (rs : List UInt8) (A : Option Addr) (n c : Nat) (es : List Pf) (z : ZP) (w : World) (hz : Zs w z) (hr : RB w R rn rs) (hR : R = none → rn = 0 ∧ rc = 0) (hrn : rn ≤ 140737488355328) (hl : RP w A n es) (hv : ∀ e ∈ es, Vp e.is) (hn : rn + 20 * n + 20 ≤ 140737488355328) :
    Calls Tryz.prog 6 #[.slice R rn rc, .slice A n c] w fun e w' => ∃ v, e = .returned (.tuple #[v, .bool true]) ∧ TB w.heap.size w w w' v (rs ++ (es.map fun e => pfB e.is).flatten) := by
  obtain ⟨i0, hi, hz0, hz1, hz2⟩ := info_parts infoU8
  have hel := hl.1
  have hrl := hr.1
  go_enter Tryz.func6, Tryz.ntmps6
  go_wp2_with (at_builtin; (refine app_copy i0 hi hz0 hz1 hz2 rfl _ _ rfl rfl R rn rc hr hR hrn rfl (Nat.le_refl _) (Below.refl _ _) ?_; intro v1 w1 h1))
  have H1 := Lib.hid h1
  clear h1 hr hR
  go_loopw [6, 14] (fun v i wr => ∃ (j : Nat) (t : List UInt8), j ≤ n ∧ i = .int .i64 j ∧ TB w.heap.size w w wr v t ∧ t.length ≤ rn + 20 * j ∧ Hid (t = rs ++ ((es.take j).map fun e => pfB e.is).flatten)) (fun _ i _ => n - (intOf i).toNat)
  case atStart => exact ⟨0, rs, Nat.zero_le _, rfl, H1.out, by omega, by simp [Hid]⟩
  case round =>
    obtain ⟨j, t, hj, rfl, htb, htl, ht⟩ := hrel
    have hbb := htb.low
    by_cases hlt : j < n
    · obtain ⟨g, o, e, hA, hg, hek, hc0, hc1, hc2, hbe⟩ := (hl.keep hbb).at hlt
      subst hA
      have hve := hv e (List.mem_of_getElem? hek)
      have hxa : Below wr.heap.size wr (wr.alloc (.cells #[.slice e.a e.n e.c, .string ⟨#[]⟩, .int .i64 e.k] 32)) := (Below.refl _ _).alloc (Nat.le_refl _) _
      have hbw := hbb.trans (hxa.mono hbb.size)
      have HQ := Lib.hid (And.intro (hz.keep hbw) (And.intro (hbe.keep hxa) (htb.below hxa)))
      have HE := Lib.hid hek
      have hsl := pfB_le e.is hve.1
      clear hbe hek hxa hbw htb
      go_wp2_with fail
      refine (prefix2_c e.a e.n e.c e.bs e.k z _ HQ.out.1 HQ.out.2.1 hve.1 hve.2).mono ?_
      rintro e1 w2 ⟨rfl, hb2⟩
      have h2 := HQ.out.2.2.below hb2
      clear hb2 HQ hc0 hc1 hc2
      go_wp2_with fail
      refine (pfAB_c w.heap.size _ t e.bs e.k z w w w2 h2 hz (Nat.le_refl _) (by omega) hve.1 hve.2).mono ?_
      rintro e1 w3 ⟨v3, rfl, h3⟩
      have H3 := Lib.hid h3
      clear h2 h3
      go_wp2
      go_roundw
      case rel => exact ⟨j + 1, _, by omega, by go_num, H3.out, by have := hsl; unfold pfB at this; simp only [Pf.is] at this; rw [List.length_append]; omega, by rw [List.take_add_one, HE.out, ht.out]; simp [Hid, pfB, Pf.is]⟩
      case measure => simp [intOf]; omega
    · obtain rfl : j = n := by omega
      have htt := ht.out
      rw [List.take_of_length_le (by omega)] at htt
      have HT := Lib.hid htt
      have HB := Lib.hid htb
      clear htt htb ht
      go_wp2
      go_returns
      exact ⟨_, rfl, by rw [← HT.out]; exact HB.out⟩
end Go.Proofs.YtnoolheinkeocaaGreatDoor
