/-
  Contracts: impl.PrefixStrings, impl.PrefixAppendAll.
-/
import Derived.Test.YtnoolheinkeocaaGreatDoorStr4
import Derived.Test.YtnoolheinkeocaaGreatDoorMade
import Derived.Test.YtnoolheinkeocaaGreatDoorBuf2
namespace Go.Proofs.YtnoolheinkeocaaGreatDoor
open Go Go.RowKit
theorem infoStr : (Tryz.prog.info? 9).map (fun i => (i.zero, i.size, i.bytes)) = some (some (.string ⟨#[]⟩), 1, 16) := by kernel_rfl
/-- The text of a prefix. -/
def pfT (p : List UInt8 × Nat) : List UInt8 := Tx.adT p.1 ++ 47 :: Tx.decT p.2
theorem adT_le {bs : List UInt8} (hl : isLen bs.length) : (Tx.adT bs).length ≤ 82 := by
  rw [← ipT_ad hl]
  unfold ipT
  split
  · simp
  · have := v4t_le (adOf bs).l; omega
  · split
    · have := v4t_le (adOf bs).l; simp [Tx.pre6]; omega
    · exact v6T_le _ _
theorem pfT_le (p : List UInt8 × Nat) (hl : isLen p.1.length) : (pfT p).length ≤ 86 := by
  have h1 := adT_le hl
  have h2 := dec_le p.2
  unfold pfT
  simp only [List.length_append, List.length_cons]
  omega
def sV (l : List UInt8) : Value := .string ⟨l.toArray⟩
theorem prefix2_c (A : Option Addr) (n c : Nat) (bs : List UInt8) (k : Nat) (z : ZP) (w : World) (hz : Zs w z) (hr : RB w A n bs) (hl : isLen bs.length) (hk : k ≤ 8 * bs.length) :
    Calls Tryz.prog 11 #[.agg #[.slice A n c, .string ⟨#[]⟩, .int .i64 k]] w fun e w' => e = .returned (.agg #[.int .u64 (adOf bs).h, .int .u64 (adOf bs).l, .pointer (z.ptr (adOf bs).k), .int .u8 ((k : Int) + 1)]) ∧ Below w.heap.size w w' := by
  have := prefix_c A n c bs k z w hz hr hl hk
  rwa [Int.natCast_add] at this
def StringsPost (w : World) (n : Nat) (ts : List (List UInt8)) (e : Ending) (w' : World) : Prop :=
  ∃ A c, e = .returned (.slice A n c) ∧ w'.ownsRow w.heap.size 9 1 (.slice A n c) n (ts.map sV) ∧ Below w.heap.size w w'
set_option maxRecDepth 100000 in
set_option maxHeartbeats 8000000 in
theorem pfStrings_c (A : Option Addr) (n c : Nat) (es : List Pf) (z : ZP) (w : World) (hz : Zs w z) (hl : RP w A n es) (hv : ∀ e ∈ es, Vp e.is) (hn : n ≤ 1099511627776) :
    Calls Tryz.prog 5 #[.slice A n c] w (StringsPost w n (es.map fun e => pfT e.is)) := by
  obtain ⟨i0, hi, hz0, hz1, hz2⟩ := info_parts infoStr
  have hel := hl.1
  go_enter Tryz.func5, Tryz.ntmps5
  go_wp2_with fail
  go_loopw [3, 8] (fun v i wr => ∃ j : Nat, j ≤ n ∧ i = .int .i64 j ∧ Hid (wr.ownsRow w.heap.size 9 1 v j ((es.map fun e => sV (pfT e.is)).take j)) ∧ Below w.heap.size w wr) (fun _ i _ => n - (intOf i).toNat)
  case atStart => exact ⟨0, Nat.zero_le _, rfl, World.ownsRow_nil _ _ _ _, Below.refl _ _⟩
  case round =>
    obtain ⟨j, hj, rfl, hown, hbb⟩ := hrel
    by_cases hlt : j < n
    · obtain ⟨g, o, e, hA, hg, hek, hc0, hc1, hc2, hbe⟩ := (hl.keep hbb).at hlt
      subst hA
      have hve := hv e (List.mem_of_getElem? hek)
      obtain ⟨A3, c3, rfl⟩ := own_slice hown.out
      have hxa : Below wr.heap.size wr (wr.alloc (.cells #[.slice e.a e.n e.c, .string ⟨#[]⟩, .int .i64 e.k] 32)) := (Below.refl _ _).alloc (Nat.le_refl _) _
      have hbw := hbb.trans (hxa.mono hbb.size)
      have hp := fun w' (h : Below (wr.alloc (.cells #[.slice e.a e.n e.c, .string ⟨#[]⟩, .int .i64 e.k] 32)).heap.size (wr.alloc (.cells #[.slice e.a e.n e.c, .string ⟨#[]⟩, .int .i64 e.k] 32)) w') => And.intro (hbw.trans (h.mono hbw.size)) (own_below (own_below hown.out hxa) h)
      have HP := Lib.hid hp
      have HQ := Lib.hid (And.intro (hz.keep hbw) (hbe.keep hxa))
      have HE := Lib.hid hek
      clear hp hbe hek hxa hbw
      go_wp2_with fail
      refine (prefix2_c e.a e.n e.c e.bs e.k z _ HQ.out.1 HQ.out.2 hve.1 hve.2).mono ?_
      rintro e1 w2 ⟨rfl, hb2⟩
      obtain ⟨p1, p2⟩ := HP.out _ hb2
      have HR := Lib.hid (And.intro p1 p2)
      clear hb2 p1 p2 HP HQ hc0 hc1 hc2
      go_wp2_with fail
      refine (pfStr_c e.bs e.k z w2 (hz.keep HR.out.1) hve.1 hve.2).mono ?_
      rintro e1 w3 ⟨rfl, hb3⟩
      have hb13 := HR.out.1.trans (hb3.mono HR.out.1.size)
      have ho3 := own_below HR.out.2 hb3
      have hsz3 := hb13.size
      clear hb3 HR
      go_wp2_with ((at_builtin; refine append1 rfl _ _ 26 rfl (w.heap.size) 9 i0 (.string ⟨#[]⟩) 1 16 Tryz.underlying26 hi hz0 hz1 hz2 rfl (by decide) _ _ _ rfl (ho3) _ _ [.string ⟨(Tx.adT e.bs ++ 47 :: Tx.decT e.k).toArray⟩] rfl (by simp) rfl rfl (by unfold maxLen; omega) (by omega) (by first | omega | (simp; omega)) ?_))
      intro v4 w4 hown4 hgr4
      have hxb : Below w3.heap.size w3 (w3.alloc (.cells #[.string ⟨(Tx.adT e.bs ++ 47 :: Tx.decT e.k).toArray⟩] 9)) := (Below.refl _ _).alloc (Nat.le_refl _) _
      have hb4 : Below w.heap.size w w4 := (hb13.trans (hxb.mono hsz3)).grown hgr4 (Nat.le_trans hsz3 hxb.size) (own_row_ge ho3)
      have ho4 : w4.ownsRow w.heap.size 9 1 v4 (j + 1) ((es.map fun e => sV (pfT e.is)).take (j + 1)) := by
        rw [List.take_add_one, List.getElem?_map, HE.out]
        exact hown4
      have G1 := Lib.hid ho4
      clear hown4 ho4 hgr4 hxb ho3
      go_wp2
      go_roundw
      case rel => exact ⟨j + 1, by omega, by go_num, G1.out, hb4⟩
      case measure => simp [intOf]; omega
    · obtain rfl : j = n := by omega
      obtain ⟨A3, c3, rfl⟩ := own_slice hown.out
      have ho := hown.out
      rw [List.take_of_length_le (by rw [List.length_map]; omega)] at ho
      have HO := Lib.hid ho
      clear ho hown
      go_wp2
      go_returns
      exact ⟨A3, c3, rfl, by rw [List.map_map]; exact HO.out, hbb⟩
end Go.Proofs.YtnoolheinkeocaaGreatDoor
