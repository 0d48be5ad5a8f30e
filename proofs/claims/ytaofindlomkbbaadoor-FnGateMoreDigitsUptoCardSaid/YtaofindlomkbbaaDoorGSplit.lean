/-
  Contract: splitAddrPort.
-/
import Derived.Test.YtaofindlomkbbaaDoorLast
import Derived.Test.YtaofindlomkbbaaDoorPAd
import Derived.Test.YtaofindlomkbbaaDoorRegion2
import Derived.BigQuiet
namespace Go.Proofs.YtaofindlomkbbaaDoor
open Go Go.RowKit
/-- splitAddrPort's error. -/
def SplitErr (e : Ending) : Prop := ∃ p, e = .returned (.tuple #[.string ⟨#[]⟩, .string ⟨#[]⟩, .bool false, .iface 84 p])
set_option maxRecDepth 100000 in
set_option maxHeartbeats 8000000 in
theorem split_no (s : ByteArray) (w : World) (hs : s.size ≤ 4611686018427387904) (h58 : (58 : UInt8) ∉ s.data.toList) :
    Calls Tryd.prog 23 #[.string s] w fun e w' => SplitErr e ∧ Below w.heap.size w w' := by
  have hl : lix s.data.toList 58 s.size = -1 := by rw [← str_len]; exact lix_none h58 _ (Nat.le_refl _)
  have H := Lib.hid hl
  clear hl
  go_enter Tryd.func23, Tryd.ntmps23
  go_wp2_with fail
  refine (last_c s 58 _ hs).mono ?_
  rintro e w1 ⟨rfl, rfl⟩
  rw [H.out]
  go_wp2
  go_returns
  exact ⟨⟨_, rfl⟩, by go_grown⟩
set_option maxRecDepth 100000 in
set_option maxHeartbeats 8000000 in
theorem split_noport (s ip pt : ByteArray) (a : Nat) (w : World) (hs : s.size ≤ 4611686018427387904) (hl : lix s.data.toList 58 s.size = a) (hip : s.extract 0 a = ip) (hpt : s.extract (a + 1) s.size = pt) (h1 : ip.size = a) (hap : a + 1 + pt.size = s.size) (ha : 0 < ip.size) (hp : pt.size = 0) :
    Calls Tryd.prog 23 #[.string s] w fun e w' => SplitErr e ∧ Below w.heap.size w w' := by
  have H := Lib.hid hl
  have hi1 : (a : Int) ≤ (s.size : Int) := by omega
  have hi2 : (a : Int) + 1 ≤ (s.size : Int) := by omega
  have n1 : ((a : Int) == -1) = false := by rw [beq_eq_false_iff_ne]; omega
  have n2 : ((ip.size : Int) == 0) = false := by rw [beq_eq_false_iff_ne]; omega
  have n2' : (ip.size == 0) = false := by rw [beq_eq_false_iff_ne]; omega
  have n3 : ((pt.size : Int) == 0) = true := by rw [beq_iff_eq]; omega
  have n3' : (pt.size == 0) = true := by rw [beq_iff_eq]; omega
  have HI := Lib.hid (And.intro hip (And.intro hpt h1))
  clear hl hip hpt h1
  go_enter Tryd.func23, Tryd.ntmps23
  go_wp2_with fail
  refine (last_c s 58 _ hs).mono ?_
  rintro e w1 ⟨rfl, rfl⟩
  rw [H.out]
  go_wp2_with fail
  go_quiet (fail)
  rw [HI.out.1, HI.out.2.1]
  go_wp2
  go_returns
  exact ⟨⟨_, rfl⟩, by go_grown; exact ⟨rfl, rfl, rfl, Nat.le_refl _, fun _ _ => rfl⟩⟩
set_option maxRecDepth 100000 in
set_option maxHeartbeats 8000000 in
theorem split_short (s ip pt : ByteArray) (a : Nat) (w : World) (hs : s.size ≤ 4611686018427387904) (hl : lix s.data.toList 58 s.size = a) (hip : s.extract 0 a = ip) (hpt : s.extract (a + 1) s.size = pt) (h1 : ip.size = a) (hap : a + 1 + pt.size = s.size) (ha : 0 < ip.size) (hp : 0 < pt.size) (hx : (ip[0]'ha).toNat = 91) (h2 : ip.size < 2) :
    Calls Tryd.prog 23 #[.string s] w fun e w' => SplitErr e ∧ Below w.heap.size w w' := by
  have H := Lib.hid hl
  have hi1 : (a : Int) ≤ (s.size : Int) := by omega
  have hi2 : (a : Int) + 1 ≤ (s.size : Int) := by omega
  have n1 : ((a : Int) == -1) = false := by rw [beq_eq_false_iff_ne]; omega
  have n2 : ((ip.size : Int) == 0) = false := by rw [beq_eq_false_iff_ne]; omega
  have n2' : (ip.size == 0) = false := by rw [beq_eq_false_iff_ne]; omega
  have n3 : ((pt.size : Int) == 0) = false := by rw [beq_eq_false_iff_ne]; omega
  have n3' : (pt.size == 0) = false := by rw [beq_eq_false_iff_ne]; omega
  have q1 : (((ip[0]'ha).toNat : Int) == 91) = true := by rw [beq_iff_eq]; omega
  have q1' : ((ip[0]'ha).toNat == 91) = true := by rw [beq_iff_eq]; omega
  have q2 : (ip.size : Int) < 2 := by omega
  have HI := Lib.hid (And.intro hip (And.intro hpt h1))
  clear hl hip hpt h1
  go_enter Tryd.func23, Tryd.ntmps23
  go_wp2_with fail
  refine (last_c s 58 _ hs).mono ?_
  rintro e w1 ⟨rfl, rfl⟩
  rw [H.out]
  go_wp2_with fail
  go_quiet (fail)
  rw [HI.out.1, HI.out.2.1]
  go_wp2
  go_returns
  exact ⟨⟨_, rfl⟩, by go_grown; exact ⟨rfl, rfl, rfl, Nat.le_refl _, fun _ _ => rfl⟩⟩
set_option maxRecDepth 100000 in
set_option maxHeartbeats 8000000 in
theorem split_open (s ip pt : ByteArray) (a : Nat) (w : World) (hs : s.size ≤ 4611686018427387904) (hl : lix s.data.toList 58 s.size = a) (hip : s.extract 0 a = ip) (hpt : s.extract (a + 1) s.size = pt) (h1 : ip.size = a) (hap : a + 1 + pt.size = s.size) (ha : 0 < ip.size) (hp : 0 < pt.size) (hx : (ip[0]'ha).toNat = 91) (h2 : 2 ≤ ip.size) (m : Nat) (hm : ip.size = m + 1) (hy : (ip[m]'(by omega)).toNat ≠ 93) :
    Calls Tryd.prog 23 #[.string s] w fun e w' => SplitErr e ∧ Below w.heap.size w w' := by
  have H := Lib.hid hl
  have hi1 : (a : Int) ≤ (s.size : Int) := by omega
  have hi2 : (a : Int) + 1 ≤ (s.size : Int) := by omega
  have n1 : ((a : Int) == -1) = false := by rw [beq_eq_false_iff_ne]; omega
  have n2 : ((ip.size : Int) == 0) = false := by rw [beq_eq_false_iff_ne]; omega
  have n2' : (ip.size == 0) = false := by rw [beq_eq_false_iff_ne]; omega
  have n3 : ((pt.size : Int) == 0) = false := by rw [beq_eq_false_iff_ne]; omega
  have n3' : (pt.size == 0) = false := by rw [beq_eq_false_iff_ne]; omega
  have q1 : (((ip[0]'ha).toNat : Int) == 91) = true := by rw [beq_iff_eq]; omega
  have q1' : ((ip[0]'ha).toNat == 91) = true := by rw [beq_iff_eq]; omega
  have q2 : ¬ (ip.size : Int) < 2 := by omega
  have q2m : ((m : Int) + 1 < 2) = False := by rw [eq_iff_iff, iff_false]; omega
  have n2m : ((m : Int) + 1 == 0) = false := by rw [beq_eq_false_iff_ne]; omega
  have q5 : wrap64 (m : Int) = m := by unfold wrap64; omega
  have q3 : (((ip[m]'(by omega)).toNat : Int) != 93) = true := by rw [bne_iff_ne]; omega
  have q3' : ((ip[m]'(by omega)).toNat != 93) = true := by rw [bne_iff_ne]; exact hy
  have HI := Lib.hid (And.intro hip (And.intro hpt h1))
  clear hl hip hpt h1
  go_enter Tryd.func23, Tryd.ntmps23
  go_wp2_with fail
  refine (last_c s 58 _ hs).mono ?_
  rintro e w1 ⟨rfl, rfl⟩
  rw [H.out]
  go_wp2_with fail
  go_quiet (fail)
  rw [HI.out.1, HI.out.2.1]
  go_wp2
  go_returns
  exact ⟨⟨_, rfl⟩, by go_grown; exact ⟨rfl, rfl, rfl, Nat.le_refl _, fun _ _ => rfl⟩⟩
set_option maxRecDepth 100000 in
set_option maxHeartbeats 8000000 in
theorem split_plain (s ip pt : ByteArray) (a : Nat) (w : World) (hs : s.size ≤ 4611686018427387904) (hl : lix s.data.toList 58 s.size = a) (hip : s.extract 0 a = ip) (hpt : s.extract (a + 1) s.size = pt) (h1 : ip.size = a) (hap : a + 1 + pt.size = s.size) (ha : 0 < ip.size) (hp : 0 < pt.size) (hx : (ip[0]'ha).toNat ≠ 91) :
    Calls Tryd.prog 23 #[.string s] w fun e w' => e = .returned (.tuple #[.string ip, .string pt, .bool false, .nilIface]) ∧ Below w.heap.size w w' := by
  have H := Lib.hid hl
  have hi1 : (a : Int) ≤ (s.size : Int) := by omega
  have hi2 : (a : Int) + 1 ≤ (s.size : Int) := by omega
  have n1 : ((a : Int) == -1) = false := by rw [beq_eq_false_iff_ne]; omega
  have n2 : ((ip.size : Int) == 0) = false := by rw [beq_eq_false_iff_ne]; omega
  have n2' : (ip.size == 0) = false := by rw [beq_eq_false_iff_ne]; omega
  have n3 : ((pt.size : Int) == 0) = false := by rw [beq_eq_false_iff_ne]; omega
  have n3' : (pt.size == 0) = false := by rw [beq_eq_false_iff_ne]; omega
  have q1 : (((ip[0]'ha).toNat : Int) == 91) = false := by rw [beq_eq_false_iff_ne]; omega
  have q1' : ((ip[0]'ha).toNat == 91) = false := by rw [beq_eq_false_iff_ne]; exact hx
  have HI := Lib.hid (And.intro hip (And.intro hpt h1))
  clear hl hip hpt h1
  go_enter Tryd.func23, Tryd.ntmps23
  go_wp2_with fail
  refine (last_c s 58 _ hs).mono ?_
  rintro e w1 ⟨rfl, rfl⟩
  rw [H.out]
  go_wp2_with fail
  go_quiet (fail)
  rw [HI.out.1, HI.out.2.1]
  go_wp2
  go_returns
  exact ⟨rfl, ⟨rfl, rfl, rfl, Nat.le_refl _, fun _ _ => rfl⟩⟩
set_option maxRecDepth 100000 in
set_option maxHeartbeats 8000000 in
theorem split_closed (s ip pt : ByteArray) (a : Nat) (w : World) (hs : s.size ≤ 4611686018427387904) (hl : lix s.data.toList 58 s.size = a) (hip : s.extract 0 a = ip) (hpt : s.extract (a + 1) s.size = pt) (h1 : ip.size = a) (hap : a + 1 + pt.size = s.size) (ha : 0 < ip.size) (hp : 0 < pt.size) (hx : (ip[0]'ha).toNat = 91) (h2 : 2 ≤ ip.size) (m : Nat) (hm : ip.size = m + 1) (hy : (ip[m]'(by omega)).toNat = 93) :
    Calls Tryd.prog 23 #[.string s] w fun e w' => e = .returned (.tuple #[.string (ip.extract 1 m), .string pt, .bool true, .nilIface]) ∧ Below w.heap.size w w' := by
  have H := Lib.hid hl
  have hi1 : (a : Int) ≤ (s.size : Int) := by omega
  have hi2 : (a : Int) + 1 ≤ (s.size : Int) := by omega
  have n1 : ((a : Int) == -1) = false := by rw [beq_eq_false_iff_ne]; omega
  have n2 : ((ip.size : Int) == 0) = false := by rw [beq_eq_false_iff_ne]; omega
  have n2' : (ip.size == 0) = false := by rw [beq_eq_false_iff_ne]; omega
  have n3 : ((pt.size : Int) == 0) = false := by rw [beq_eq_false_iff_ne]; omega
  have n3' : (pt.size == 0) = false := by rw [beq_eq_false_iff_ne]; omega
  have q1 : (((ip[0]'ha).toNat : Int) == 91) = true := by rw [beq_iff_eq]; omega
  have q1' : ((ip[0]'ha).toNat == 91) = true := by rw [beq_iff_eq]; omega
  have q2 : ¬ (ip.size : Int) < 2 := by omega
  have q2m : ((m : Int) + 1 < 2) = False := by rw [eq_iff_iff, iff_false]; omega
  have n2m : ((m : Int) + 1 == 0) = false := by rw [beq_eq_false_iff_ne]; omega
  have q5 : wrap64 (m : Int) = m := by unfold wrap64; omega
  have q3 : (((ip[m]'(by omega)).toNat : Int) != 93) = false := by rw [bne_eq_false_iff_eq]; omega
  have q3' : ((ip[m]'(by omega)).toNat != 93) = false := by rw [bne_eq_false_iff_eq]; exact hy
  have HI := Lib.hid (And.intro hip (And.intro hpt h1))
  clear hl hip hpt h1
  go_enter Tryd.func23, Tryd.ntmps23
  go_wp2_with fail
  refine (last_c s 58 _ hs).mono ?_
  rintro e w1 ⟨rfl, rfl⟩
  rw [H.out]
  go_wp2_with fail
  go_quiet (fail)
  rw [HI.out.1, HI.out.2.1]
  go_wp2
  go_returns
  exact ⟨rfl, ⟨rfl, rfl, rfl, Nat.le_refl _, fun _ _ => rfl⟩⟩
end Go.Proofs.YtaofindlomkbbaaDoor
