/-
  The walk of laws.FnScriptBothWays.
-/
import Derived.Test.YtnoolheinkeocaaGreatDoorScr
import Derived.Test.YtnoolheinkeocaaGreatDoorBin
import Derived.Test.YtnoolheinkeocaaGreatDoorSame
import Derived.Test.YtnoolheinkeocaaGreatDoorPeR
import Derived.Test.YtnoolheinkeocaaGreatDoorRegion3
namespace Go.Proofs.YtnoolheinkeocaaGreatDoor
open Go Go.RowKit
theorem madeZ_le (l : List (List UInt8 × UInt8)) : (madeZ l).length ≤ l.length := by
  unfold madeZ; rw [List.length_map]; exact List.length_filter_le _ _
theorem samePf_eq (A B : Option Addr) (n m c d : Nat) (bs : List UInt8) (k : Nat) (w : World) (h1 : RB w A n bs) (h2 : RB w B m bs) (hn : n ≤ 9223372036854775807) :
    Calls Tryz.prog 8 #[.agg #[.slice A n c, .string ⟨#[]⟩, .int .i64 k], .agg #[.slice B m d, .string ⟨#[]⟩, .int .i64 k]] w fun e w' => e = .returned (.bool true) ∧ Below w.heap.size w w' := by
  have := samePf_c A B n m c d bs bs k k w h1 h2 hn
  rwa [show decide ((bs, k) = (bs, k)) = true from decide_eq_true rfl] at this
theorem infoStep : (Tryz.prog.info? 34).map (fun i => (i.zero, i.size, i.bytes)) = some (some (.agg #[.bool false, .slice none 0 0]), 2, 32) := by kernel_rfl
/-- A step that can be read, its data in a block of bytes. -/
def StD (w : World) (s : St) : Prop := StepOk w s ∧ ∀ g o, s.a = some ⟨g, o, none⟩ → ∃ cs fz, w.heap[g]? = some (.cells cs 5 fz)
theorem StD.below {w w' : World} {s : St} (h : StD w s) (hb : Below w.heap.size w w') : StD w' s := ⟨h.1.keep hb, fun g o e => by
  obtain ⟨cs, fz, h1⟩ := h.2 g o e
  exact ⟨cs, fz, (hb.block g (Array.getElem?_eq_some_iff.1 h1).1).trans h1⟩⟩
theorem RB.turn {w w' : World} {A : Option Addr} {n : Nat} {bs : List UInt8} {row : Option Nat} (h : RB w A n bs) (hg : w.grownBy w' row) (hne : ∀ g o, A = some ⟨g, o, none⟩ → some g ≠ row) : RB w' A n bs := by
  refine ⟨h.1, fun hn => ?_⟩
  obtain ⟨g, o, e, hlt, hc⟩ := h.2 hn
  exact ⟨g, o, e, Nat.lt_of_lt_of_le hlt hg.size, fun i hi => by rw [World.cell?_of_block (hg.block g hlt (hne g o e))]; exact hc i hi⟩
theorem StD.grown {w w' : World} {s : St} {row : Option Nat} (h : StD w s) (hg : w.grownBy w' row) (hr : ∀ k, row = some k → ∃ cs fz t, w.heap[k]? = some (.cells cs t fz) ∧ t ≠ 5) : StD w' s := by
  have hne : ∀ g o, s.a = some ⟨g, o, none⟩ → some g ≠ row := fun g o e e2 => by
    obtain ⟨cs, fz, h1⟩ := h.2 g o e
    obtain ⟨cs', fz', t, h2, h3⟩ := hr g e2.symm
    rw [h1] at h2
    injection h2 with h2
    injection h2 with _ h2
    exact h3 h2.symm
  refine ⟨⟨h.1.1, fun e => ⟨(h.1.2.1 e).1.turn hg hne, (h.1.2.1 e).2⟩, fun e => (h.1.2.2 e).turn hg hne⟩, fun g o e => ?_⟩
  obtain ⟨cs, fz, h1⟩ := h.2 g o e
  exact ⟨cs, fz, (hg.block g (Array.getElem?_eq_some_iff.1 h1).1 (hne g o e)).trans h1⟩
theorem own_kind {w : World} {base n : Nat} {e : TypeId} {size : Nat} {v : Value} {xs : List Value} (h : w.ownsRow base e size v n xs) (hne : e ≠ 5) : ∀ k, v.ownBlock = some k → ∃ cs fz t, w.heap[k]? = some (.cells cs t fz) ∧ t ≠ 5 := fun k hk => by
  rcases h.2 with ⟨rfl, _⟩ | ⟨g, cap, cur, rfl, _, hg, _⟩
  · simp [Value.ownBlock] at hk
  · simp only [Value.ownBlock, Option.some.injEq] at hk
    subst hk
    exact ⟨cur, _, e, hg, hne⟩
/-- The bytes of a text, converted. -/
theorem bytes_step {w : World} {S : ByteArray} {p : List UInt8 × Nat} (hp : Vp p) (hS : S.data.toList = pfT p) (c : Nat) : StD (Lib.bytesWorld w 5 S) ⟨false, some ⟨w.heap.size, 0, none⟩, S.size, c, p⟩ := by
  have hl : (pfT p).length = S.size := by rw [← hS, str_len]
  refine ⟨⟨hp, fun e => (by cases e), fun _ => ⟨hl, fun _ => ⟨w.heap.size, 0, rfl, by rw [Lib.bytesWorld_size]; omega, fun i hi => ?_⟩⟩⟩, fun g o e => ?_⟩
  · rw [Nat.zero_add, Lib.bytesWorld_cell w 5 S i hi, hS]
  · injection e with e
    injection e with e1 e2
    subst e1
    exact ⟨_, _, Lib.bytesWorld_at_new w 5 S⟩
/-- Bytes of a prefix in a buffer. -/
theorem buf_step {B : Nat} {W0 W1 w : World} {A : Option Addr} {c : Nat} {p : List UInt8 × Nat} (hp : Vp p) (h : TB B W0 W1 w (.slice A (pfB p).length c) (pfB p)) : StD w ⟨true, A, (pfB p).length, c, p⟩ := by
  have h0 : 0 < (pfB p).length := by unfold pfB; simp
  rcases h.own.2 with ⟨hv, hz⟩ | ⟨g, cap, cur, fz, hv, hb, hg, hf, hl, -⟩
  · omega
  · have hrb := h.rb
    injection hv with hA _ hc
    subst hA hc
    refine ⟨⟨hp, fun _ => ⟨hrb, hl⟩, fun e => (by cases e)⟩, fun g' o e => ?_⟩
    injection e with e
    injection e with e1 e2
    subst e1
    exact ⟨_, _, hg⟩
set_option maxRecDepth 100000 in
set_option maxHeartbeats 32000000 in
theorem ways_walk (A : Option Addr) (n c : Nat) (es0 : List En) (B : Option Addr) (m d : Nat) (xs : List UInt8) (Y : Option Addr) (yn yc : Nat) (ys : List UInt8) (z : ZP) (w : World) (hz : Zs w z) (hl : RS w A n es0) (hn : n ≤ 1048576) (hx : RB w B m xs) (hm : m ≤ 140737488355328) (hy : RB w Y yn ys) :
    Calls Tryz.prog 3 #[.slice A n c, .slice B m d, .slice Y yn yc] w fun e w' => e = .returned (.bool true) ∧ Below w.heap.size w w' := by
  have hval := madeZ_valid ((es0.map (·.bs)).zip xs)
  have hmlen : (madeZ ((es0.map (·.bs)).zip xs)).length ≤ n := Nat.le_trans (madeZ_le _) (by rw [List.length_zip, List.length_map, hl.1]; omega)
  obtain ⟨i0, hi, hz0, hz1, hz2⟩ := info_parts infoStep
  go_enter Tryz.func3, Tryz.ntmps3
  go_wp2_with fail
  refine (made_c A n c es0 B m d xs w hl (by omega) hx (by omega)).mono ?_
  rintro e0 w1 ⟨v1, rfl, ⟨A1, c1, es, rfl, hown, hmap, hin⟩, hb1⟩
  rw [← hmap] at hval hmlen
  rw [List.length_map] at hmlen
  have hrp := RP.of_own hown rfl hin
  have hz1' := hz.keep hb1
  have hv : ∀ e ∈ es, Vp e.is := fun e he => hval e.is (List.mem_map_of_mem he)
  clear hown hmap hin hval
  obtain ⟨N, hN⟩ : ∃ N, N = es.length := ⟨_, rfl⟩
  rw [← hN] at hrp hmlen ⊢
  have HV := Lib.hid (And.intro hv hN)
  clear hN
  go_wp2_with fail
  refine (pfStrings_c A1 N c1 es z w1 hz1' hrp hv (by omega)).mono ?_
  rintro e0 w2 ⟨A2, c2, rfl, hown2, hb2⟩
  have hbw := hb1.trans (hb2.mono hb1.size)
  have hrc2 : RC w2 A2 ((es.map fun e => pfT e.is).map sV) := RC.of_own hown2
  have H2 := Lib.hid (And.intro hbw (And.intro (hrp.keep hb2) (And.intro (hz.keep hbw) (And.intro (hy.keep hbw) hrc2))))
  clear hown2 hb1 hb2 hrp hz1' hv hbw hrc2
  go_wp2_with fail
  go_loopw [9, 30] (fun v9 i wr => ∃ (j : Nat) (ss : List St), j ≤ N ∧ i = .int .i64 j ∧ ss.length = j ∧ Hid (ss.map (·.p) = (es.take j).map Pf.is) ∧ Hid (wr.ownsRow w2.heap.size 34 2 v9 j (stCells ss)) ∧ Hid (∀ s ∈ ss, StD wr s) ∧ Hid (Below w2.heap.size w2 wr)) (fun _ i _ => N - (intOf i).toNat)
  case atStart => exact ⟨0, [], Nat.zero_le _, rfl, rfl, rfl, Lib.hid (World.ownsRow_nil _ _ _ _), Lib.hid (fun s hs => (by simp at hs)), Lib.hid (Below.refl _ _)⟩
  case round =>
    obtain ⟨j, ss, hj, rfl, hsl, hmp, hown, hok, hbb⟩ := hrel
    by_cases hlt : j < N
    · obtain ⟨g, o, e, hA, hg, hek, hc0, hc1, hc2, hbe⟩ := (H2.out.2.1.keep hbb.out).at hlt
      subst hA
      obtain ⟨g2, o2, hA2, hg2, hcs⟩ := (H2.out.2.2.2.2.keep hbb.out) (by rw [List.length_map, List.length_map]; have := HV.out.2; omega)
      subst hA2
      have hcj := hcs j (sV (pfT e.is)) (by rw [List.map_map, List.getElem?_map, hek]; rfl)
      have hve := HV.out.1 e (List.mem_of_getElem? hek)
      obtain ⟨S, hS⟩ : ∃ S : ByteArray, S = ⟨(pfT e.is).toArray⟩ := ⟨_, rfl⟩
      have hSl : S.data.toList = pfT e.is := by rw [hS]
      unfold sV at hcj
      rw [← hS] at hcj
      have hcv : ∀ w, (convert 9 23 (.string S)).run Tryz.prog w = .ok (.slice (some ⟨w.heap.size, 0, none⟩) S.size (grownCap w S.size 0 5)) (Lib.bytesWorld w 5 S) :=
        fun w => Lib.run_convert_string_bytes w _ _ _ S Tryz.underlying9 Tryz.underlying23 Tryz.underlying5
      have HE := Lib.hid (And.intro hek hSl)
      clear hek hS hSl hcs
      by_cases hyj : j < yn
      · obtain ⟨g3, o3, hY, hg3, hcy⟩ := (H2.out.2.2.2.1.keep hbb.out).2 (by omega)
        have hcyj := hcy j hyj
        subst hY
        clear hcy
        have hx256 : (ys.getD j 0).toNat < 256 := (ys.getD j 0).toBitVec.isLt
        generalize (ys.getD j 0).toNat = x at *
        have q1 : (j : Int) < (yn : Int) := by omega
        by_cases hodd : x % 2 = 1
        · have q2 : ((x : Int) % 2 == 1) = true := by rw [beq_iff_eq]; omega
          have q3 : (x % 2 == 1) = true := by rw [beq_iff_eq]; exact hodd
          have hwa : (wr.alloc (.cells #[.slice e.a e.n e.c, .string ⟨#[]⟩, .int .i64 e.k] 32)).heap.size = wr.heap.size + 1 := by simp
          have ba : Below wr.heap.size wr (wr.alloc (.cells #[.slice e.a e.n e.c, .string ⟨#[]⟩, .int .i64 e.k] 32)) := (Below.refl _ _).alloc (Nat.le_refl _) _
          have bb := ba.trans ((Lib.bytesWorld_below (wr.alloc (.cells #[.slice e.a e.n e.c, .string ⟨#[]⟩, .int .i64 e.k] 32)) 5 S).mono ba.size)
          have bc : Below (Lib.bytesWorld (wr.alloc (.cells #[.slice e.a e.n e.c, .string ⟨#[]⟩, .int .i64 e.k] 32)) 5 S).heap.size (Lib.bytesWorld (wr.alloc (.cells #[.slice e.a e.n e.c, .string ⟨#[]⟩, .int .i64 e.k] 32)) 5 S) ((Lib.bytesWorld (wr.alloc (.cells #[.slice e.a e.n e.c, .string ⟨#[]⟩, .int .i64 e.k] 32)) 5 S).alloc (.cells #[.bool false, .slice (some ⟨wr.heap.size + 1, 0, none⟩) S.size (grownCap (wr.alloc (.cells #[.slice e.a e.n e.c, .string ⟨#[]⟩, .int .i64 e.k] 32)) S.size 0 5)] 34)) := (Below.refl _ _).alloc (Nat.le_refl _) _
          have hall := bb.trans (bc.mono bb.size)
          have hst := (bytes_step (w := (wr.alloc (.cells #[.slice e.a e.n e.c, .string ⟨#[]⟩, .int .i64 e.k] 32))) hve HE.out.2 (grownCap (wr.alloc (.cells #[.slice e.a e.n e.c, .string ⟨#[]⟩, .int .i64 e.k] 32)) S.size 0 5)).below bc
          rw [hwa] at hst
          have hcb := (bb.cell (p := ⟨g3, o3 + j, none⟩) hg3).trans hcyj
          have hcw := (hall.cell (p := ⟨g3, o3 + j, none⟩) hg3).trans hcyj
          have hg3b := Nat.lt_of_lt_of_le hg3 bb.size
          have hg3c := Nat.lt_of_lt_of_le hg3 hall.size
          have HX := Lib.hid (And.intro (own_below hown.out hall) (And.intro hst (And.intro (hbb.out.trans (hall.mono hbb.out.size)) (And.intro (fun s hs => (hok.out s hs).below hall : ∀ s ∈ ss, StD ((Lib.bytesWorld (wr.alloc (.cells #[.slice e.a e.n e.c, .string ⟨#[]⟩, .int .i64 e.k] 32)) 5 S).alloc (.cells #[.bool false, .slice (some ⟨wr.heap.size + 1, 0, none⟩) S.size (grownCap (wr.alloc (.cells #[.slice e.a e.n e.c, .string ⟨#[]⟩, .int .i64 e.k] 32)) S.size 0 5)] 34)) s) (hbe.keep hall)))))
          have hbPb : Blk (Lib.bytesWorld (wr.alloc (.cells #[.slice e.a e.n e.c, .string ⟨#[]⟩, .int .i64 e.k] 32)) 5 S) wr.heap.size 32 #[.slice e.a e.n e.c, .string ⟨#[]⟩, .int .i64 e.k] := (show Blk (wr.alloc (.cells #[.slice e.a e.n e.c, .string ⟨#[]⟩, .int .i64 e.k] 32)) wr.heap.size 32 #[.slice e.a e.n e.c, .string ⟨#[]⟩, .int .i64 e.k] from heap_alloc_new _ _).below (Lib.bytesWorld_below _ _ _)
          have hbP := hbPb.below bc
          have hbS : Blk ((Lib.bytesWorld (wr.alloc (.cells #[.slice e.a e.n e.c, .string ⟨#[]⟩, .int .i64 e.k] 32)) 5 S).alloc (.cells #[.bool false, .slice (some ⟨wr.heap.size + 1, 0, none⟩) S.size (grownCap (wr.alloc (.cells #[.slice e.a e.n e.c, .string ⟨#[]⟩, .int .i64 e.k] 32)) S.size 0 5)] 34)) (Lib.bytesWorld (wr.alloc (.cells #[.slice e.a e.n e.c, .string ⟨#[]⟩, .int .i64 e.k] 32)) 5 S).heap.size 34 #[.bool false, .slice (some ⟨wr.heap.size + 1, 0, none⟩) S.size (grownCap (wr.alloc (.cells #[.slice e.a e.n e.c, .string ⟨#[]⟩, .int .i64 e.k] 32)) S.size 0 5)] := heap_alloc_new _ _
          have rPb := hbPb.cell
          have rP := hbP.cell
          have lPb := hbPb.lt
          have hgS : wr.heap.size < (Lib.bytesWorld (wr.alloc (.cells #[.slice e.a e.n e.c, .string ⟨#[]⟩, .int .i64 e.k] 32)) 5 S).heap.size := hbPb.lt
          have hws2 := hbb.out.size
          have hltS := fun k hk => (hown.out.lt k hk).2
          have HY := Lib.hid (And.intro hbS (And.intro hbP (And.intro hgS hltS)))
          clear hwa ba bb bc hall hst hbe hbPb hbP hbS hgS hltS hown hbb hok
          go_wp2_with fail
          have hwc : ((Lib.bytesWorld (wr.alloc (.cells #[.slice e.a e.n e.c, .string ⟨#[]⟩, .int .i64 e.k] 32)) 5 S).alloc (.cells #[.bool false, .slice (some ⟨wr.heap.size + 1, 0, none⟩) S.size (grownCap (wr.alloc (.cells #[.slice e.a e.n e.c, .string ⟨#[]⟩, .int .i64 e.k] 32)) S.size 0 5)] 34)).heap.size = (Lib.bytesWorld (wr.alloc (.cells #[.slice e.a e.n e.c, .string ⟨#[]⟩, .int .i64 e.k] 32)) 5 S).heap.size + 1 := by simp
          have hbL : Blk (((Lib.bytesWorld (wr.alloc (.cells #[.slice e.a e.n e.c, .string ⟨#[]⟩, .int .i64 e.k] 32)) 5 S).alloc (.cells #[.bool false, .slice (some ⟨wr.heap.size + 1, 0, none⟩) S.size (grownCap (wr.alloc (.cells #[.slice e.a e.n e.c, .string ⟨#[]⟩, .int .i64 e.k] 32)) S.size 0 5)] 34)).alloc (.cells #[.slice e.a e.n e.c, .string ⟨#[]⟩, .int .i64 e.k] 32)) ((Lib.bytesWorld (wr.alloc (.cells #[.slice e.a e.n e.c, .string ⟨#[]⟩, .int .i64 e.k] 32)) 5 S).heap.size + 1) 32 #[.slice e.a e.n e.c, .string ⟨#[]⟩, .int .i64 e.k] := by rw [← hwc]; exact heap_alloc_new _ _
          have bd : Below ((Lib.bytesWorld (wr.alloc (.cells #[.slice e.a e.n e.c, .string ⟨#[]⟩, .int .i64 e.k] 32)) 5 S).alloc (.cells #[.bool false, .slice (some ⟨wr.heap.size + 1, 0, none⟩) S.size (grownCap (wr.alloc (.cells #[.slice e.a e.n e.c, .string ⟨#[]⟩, .int .i64 e.k] 32)) S.size 0 5)] 34)).heap.size ((Lib.bytesWorld (wr.alloc (.cells #[.slice e.a e.n e.c, .string ⟨#[]⟩, .int .i64 e.k] 32)) 5 S).alloc (.cells #[.bool false, .slice (some ⟨wr.heap.size + 1, 0, none⟩) S.size (grownCap (wr.alloc (.cells #[.slice e.a e.n e.c, .string ⟨#[]⟩, .int .i64 e.k] 32)) S.size 0 5)] 34)) (((Lib.bytesWorld (wr.alloc (.cells #[.slice e.a e.n e.c, .string ⟨#[]⟩, .int .i64 e.k] 32)) 5 S).alloc (.cells #[.bool false, .slice (some ⟨wr.heap.size + 1, 0, none⟩) S.size (grownCap (wr.alloc (.cells #[.slice e.a e.n e.c, .string ⟨#[]⟩, .int .i64 e.k] 32)) S.size 0 5)] 34)).alloc (.cells #[.slice e.a e.n e.c, .string ⟨#[]⟩, .int .i64 e.k] 32)) := (Below.refl _ _).alloc (Nat.le_refl _) _
          have f1 := own_below HX.out.1 bd
          have f2 := HX.out.2.2.1.trans (bd.mono HX.out.2.2.1.size)
          have f3 : ∀ s ∈ ss, StD (((Lib.bytesWorld (wr.alloc (.cells #[.slice e.a e.n e.c, .string ⟨#[]⟩, .int .i64 e.k] 32)) 5 S).alloc (.cells #[.bool false, .slice (some ⟨wr.heap.size + 1, 0, none⟩) S.size (grownCap (wr.alloc (.cells #[.slice e.a e.n e.c, .string ⟨#[]⟩, .int .i64 e.k] 32)) S.size 0 5)] 34)).alloc (.cells #[.slice e.a e.n e.c, .string ⟨#[]⟩, .int .i64 e.k] 32)) s := fun s hs => (HX.out.2.2.2.1 s hs).below bd
          have f4 := HY.out.1.below bd
          have f5 := HX.out.2.2.2.2.keep bd
          have f6 := HY.out.2.2.1
          have f7 := HY.out.2.2.2
          clear hwc bd HX HY rP rPb lPb hcb hcw hg3b hg3c hcyj
          generalize (((Lib.bytesWorld (wr.alloc (.cells #[.slice e.a e.n e.c, .string ⟨#[]⟩, .int .i64 e.k] 32)) 5 S).alloc (.cells #[.bool false, .slice (some ⟨wr.heap.size + 1, 0, none⟩) S.size (grownCap (wr.alloc (.cells #[.slice e.a e.n e.c, .string ⟨#[]⟩, .int .i64 e.k] 32)) S.size 0 5)] 34)).alloc (.cells #[.slice e.a e.n e.c, .string ⟨#[]⟩, .int .i64 e.k] 32)) = wd at *
          generalize (Lib.bytesWorld (wr.alloc (.cells #[.slice e.a e.n e.c, .string ⟨#[]⟩, .int .i64 e.k] 32)) 5 S).heap.size = gS at *
          have hrpL : RP wd (some ⟨gS + 1, 0, none⟩) 1 [e] := by
            refine ⟨rfl, fun _ => ⟨gS + 1, 0, rfl, hbL.lt, fun i u hu => ?_⟩, fun e' he' => ?_⟩
            · rw [Nat.zero_add, hbL.cell i, ← hu]; simp [pfCells, Pf.cells]
            · simp only [List.mem_singleton] at he'; subst he'; exact f5
          have hz5 := H2.out.2.2.1.keep f2
          refine (pfBinaries_c none 0 0 [] _ 1 1 [e] z wd hz5 (RB.nil _ _) (fun _ => ⟨rfl, rfl⟩) (by omega) hrpL (by intro e' he'; simp only [List.mem_singleton] at he'; subst he'; exact hve) (by omega)).mono ?_
          rintro e5 w5 ⟨v5, rfl, h5⟩
          rw [show ([] : List UInt8) ++ ([e].map fun e => pfB e.is).flatten = pfB e.is by simp] at h5
          obtain ⟨A8, c8, rfl⟩ := h5.slice
          have hnew := buf_step hve h5
          have b5 := h5.low
          have g1 := own_below f1 b5
          have g2x := f2.trans (b5.mono f2.size)
          have g3x : ∀ s ∈ ss, StD w5 s := fun s hs => (f3 s hs).below b5
          have g4 := f4.below b5
          obtain ⟨nB, hnB⟩ : ∃ nB, nB = (pfB e.is).length := ⟨_, rfl⟩
          rw [← hnB] at hnew ⊢
          clear hnB
          have rS := g4.cell
          have fS := g4.free
          have lS := g4.lt
          have hgr : w5.grownBy ((w5.setCell ⟨gS, 0, none⟩ (.bool true)).setCell ⟨gS, 1, none⟩ (.slice A8 nB c8)) (some gS) := grown_both (grown_cell _ _ _ _) (grown_cell _ _ _ _)
          have hkS : ∀ k, some gS = some k → ∃ cs fz t, w5.heap[k]? = some (.cells cs t fz) ∧ t ≠ 5 := fun k hk => by
            injection hk with hk
            subst hk
            exact ⟨_, _, _, g4, by decide⟩
          have o1 := g1.kept hgr (by
            cases hk : u9.ownBlock with
            | none => exact .inl rfl
            | some k => right; intro e; injection e with e; have := f7 k hk; omega)
          have o2x : Below w2.heap.size w2 ((w5.setCell ⟨gS, 0, none⟩ (.bool true)).setCell ⟨gS, 1, none⟩ (.slice A8 nB c8)) := g2x.grown hgr g2x.size (fun k hk => by injection hk with hk; have := hws2; omega)
          have o3x : ∀ s ∈ ss, StD ((w5.setCell ⟨gS, 0, none⟩ (.bool true)).setCell ⟨gS, 1, none⟩ (.slice A8 nB c8)) s := fun s hs => (g3x s hs).grown hgr (fun k hk => hkS k hk)
          have o4 := hnew.grown hgr (fun k hk => hkS k hk)
          have HX := Lib.hid (And.intro o1 (And.intro o4 (And.intro o2x (And.intro o3x True.intro))))
          have hszc := o2x.size
          clear o1 o2x o3x o4 hgr hkS g1 g2x g3x g4 hnew b5 h5 f1 f2 f3 f4 f5 f6 hz5 hrpL hbL f7 hg3 q1 q2 q3 hodd hyj hcj hg hg2
          go_wp2_with ((at_builtin; refine append1 rfl _ _ 28 rfl (w2.heap.size) 34 i0 (.agg #[.bool false, .slice none 0 0]) 2 32 Tryz.underlying28 hi hz0 hz1 hz2 rfl (by decide) _ _ _ rfl (HX.out.1) _ _ [.bool true, .slice A8 nB c8] rfl (by simp) rfl rfl (by unfold maxLen; omega) (by omega) (by first | omega | (simp; omega)) ?_))
          intro v6 w6 hown6 hgr6
          have hxb : Below ((w5.setCell ⟨gS, 0, none⟩ (.bool true)).setCell ⟨gS, 1, none⟩ (.slice A8 nB c8)).heap.size ((w5.setCell ⟨gS, 0, none⟩ (.bool true)).setCell ⟨gS, 1, none⟩ (.slice A8 nB c8)) (((w5.setCell ⟨gS, 0, none⟩ (.bool true)).setCell ⟨gS, 1, none⟩ (.slice A8 nB c8)).alloc (.cells #[.bool true, .slice A8 nB c8] 34)) := (Below.refl _ _).alloc (Nat.le_refl _) _
          have hb6 : Below w2.heap.size w2 w6 := (HX.out.2.2.1.trans (hxb.mono HX.out.2.2.1.size)).grown hgr6 (Nat.le_trans HX.out.2.2.1.size hxb.size) (own_row_ge HX.out.1)
          have hkd := own_kind (own_below HX.out.1 hxb) (by decide)
          have ho6 : w6.ownsRow w2.heap.size 34 2 v6 (j + 1) (stCells (ss ++ [⟨true, A8, nB, c8, e.is⟩])) := by rw [stCells_append]; exact hown6
          have hok6 : ∀ s ∈ ss ++ [(⟨true, A8, nB, c8, e.is⟩ : St)], StD w6 s := fun s hs => by
            rcases List.mem_append.1 hs with hs | hs
            · exact ((HX.out.2.2.2.1 s hs).below hxb).grown hgr6 hkd
            · simp only [List.mem_singleton] at hs
              subst hs
              exact (HX.out.2.1.below hxb).grown hgr6 hkd
          have hm6 : (ss ++ [(⟨true, A8, nB, c8, e.is⟩ : St)]).map (·.p) = (es.take (j + 1)).map Pf.is := by
            rw [List.map_append, hmp.out, List.take_add_one, HE.out.1]; simp
          have hl6 : (ss ++ [(⟨true, A8, nB, c8, e.is⟩ : St)]).length = j + 1 := by rw [List.length_append, hsl]; rfl
          generalize ss ++ [(⟨true, A8, nB, c8, e.is⟩ : St)] = ss6 at *
          have G1 := Lib.hid ho6
          have G2 := Lib.hid hok6
          have G3 := Lib.hid hm6
          have G4 := Lib.hid hb6
          clear hown6 hgr6 hxb hb6 ho6 hok6 hm6 hkd hc0 hc1 hc2 HX hmp
          go_wp2
          go_roundw
          case rel => exact ⟨j + 1, ss6, by omega, by go_num, hl6, G3, G1, G2, G4⟩
          case measure => simp [intOf]; omega
        · have q2 : ((x : Int) % 2 == 1) = false := by rw [beq_eq_false_iff_ne]; omega
          have q3 : (x % 2 == 1) = false := by rw [beq_eq_false_iff_ne]; exact hodd
          have hwa : (wr.alloc (.cells #[.slice e.a e.n e.c, .string ⟨#[]⟩, .int .i64 e.k] 32)).heap.size = wr.heap.size + 1 := by simp
          have ba : Below wr.heap.size wr (wr.alloc (.cells #[.slice e.a e.n e.c, .string ⟨#[]⟩, .int .i64 e.k] 32)) := (Below.refl _ _).alloc (Nat.le_refl _) _
          have bb := ba.trans ((Lib.bytesWorld_below (wr.alloc (.cells #[.slice e.a e.n e.c, .string ⟨#[]⟩, .int .i64 e.k] 32)) 5 S).mono ba.size)
          have bc : Below (Lib.bytesWorld (wr.alloc (.cells #[.slice e.a e.n e.c, .string ⟨#[]⟩, .int .i64 e.k] 32)) 5 S).heap.size (Lib.bytesWorld (wr.alloc (.cells #[.slice e.a e.n e.c, .string ⟨#[]⟩, .int .i64 e.k] 32)) 5 S) ((Lib.bytesWorld (wr.alloc (.cells #[.slice e.a e.n e.c, .string ⟨#[]⟩, .int .i64 e.k] 32)) 5 S).alloc (.cells #[.bool false, .slice (some ⟨wr.heap.size + 1, 0, none⟩) S.size (grownCap (wr.alloc (.cells #[.slice e.a e.n e.c, .string ⟨#[]⟩, .int .i64 e.k] 32)) S.size 0 5)] 34)) := (Below.refl _ _).alloc (Nat.le_refl _) _
          have hall := bb.trans (bc.mono bb.size)
          have hst := (bytes_step (w := (wr.alloc (.cells #[.slice e.a e.n e.c, .string ⟨#[]⟩, .int .i64 e.k] 32))) hve HE.out.2 (grownCap (wr.alloc (.cells #[.slice e.a e.n e.c, .string ⟨#[]⟩, .int .i64 e.k] 32)) S.size 0 5)).below bc
          rw [hwa] at hst
          have hcb := (bb.cell (p := ⟨g3, o3 + j, none⟩) hg3).trans hcyj
          have hcw := (hall.cell (p := ⟨g3, o3 + j, none⟩) hg3).trans hcyj
          have hg3b := Nat.lt_of_lt_of_le hg3 bb.size
          have hg3c := Nat.lt_of_lt_of_le hg3 hall.size
          have HX := Lib.hid (And.intro (own_below hown.out hall) (And.intro hst (And.intro (hbb.out.trans (hall.mono hbb.out.size)) (And.intro (fun s hs => (hok.out s hs).below hall : ∀ s ∈ ss, StD ((Lib.bytesWorld (wr.alloc (.cells #[.slice e.a e.n e.c, .string ⟨#[]⟩, .int .i64 e.k] 32)) 5 S).alloc (.cells #[.bool false, .slice (some ⟨wr.heap.size + 1, 0, none⟩) S.size (grownCap (wr.alloc (.cells #[.slice e.a e.n e.c, .string ⟨#[]⟩, .int .i64 e.k] 32)) S.size 0 5)] 34)) s) (hbe.keep hall)))))
          have hszc := HX.out.2.2.1.size
          clear hwa ba bb bc hall hst hown hbb hok hbe
          go_wp2_with ((at_builtin; refine append1 rfl _ _ 28 rfl (w2.heap.size) 34 i0 (.agg #[.bool false, .slice none 0 0]) 2 32 Tryz.underlying28 hi hz0 hz1 hz2 rfl (by decide) _ _ _ rfl (HX.out.1) _ _ [.bool false, .slice (some ⟨wr.heap.size + 1, 0, none⟩) S.size (grownCap (wr.alloc (.cells #[.slice e.a e.n e.c, .string ⟨#[]⟩, .int .i64 e.k] 32)) S.size 0 5)] rfl (by simp) rfl rfl (by unfold maxLen; omega) (by omega) (by first | omega | (simp; omega)) ?_))
          intro v6 w6 hown6 hgr6
          have hxb : Below ((Lib.bytesWorld (wr.alloc (.cells #[.slice e.a e.n e.c, .string ⟨#[]⟩, .int .i64 e.k] 32)) 5 S).alloc (.cells #[.bool false, .slice (some ⟨wr.heap.size + 1, 0, none⟩) S.size (grownCap (wr.alloc (.cells #[.slice e.a e.n e.c, .string ⟨#[]⟩, .int .i64 e.k] 32)) S.size 0 5)] 34)).heap.size ((Lib.bytesWorld (wr.alloc (.cells #[.slice e.a e.n e.c, .string ⟨#[]⟩, .int .i64 e.k] 32)) 5 S).alloc (.cells #[.bool false, .slice (some ⟨wr.heap.size + 1, 0, none⟩) S.size (grownCap (wr.alloc (.cells #[.slice e.a e.n e.c, .string ⟨#[]⟩, .int .i64 e.k] 32)) S.size 0 5)] 34)) (((Lib.bytesWorld (wr.alloc (.cells #[.slice e.a e.n e.c, .string ⟨#[]⟩, .int .i64 e.k] 32)) 5 S).alloc (.cells #[.bool false, .slice (some ⟨wr.heap.size + 1, 0, none⟩) S.size (grownCap (wr.alloc (.cells #[.slice e.a e.n e.c, .string ⟨#[]⟩, .int .i64 e.k] 32)) S.size 0 5)] 34)).alloc (.cells #[.bool false, .slice (some ⟨wr.heap.size + 1, 0, none⟩) S.size (grownCap (wr.alloc (.cells #[.slice e.a e.n e.c, .string ⟨#[]⟩, .int .i64 e.k] 32)) S.size 0 5)] 34)) := (Below.refl _ _).alloc (Nat.le_refl _) _
          have hb6 : Below w2.heap.size w2 w6 := (HX.out.2.2.1.trans (hxb.mono HX.out.2.2.1.size)).grown hgr6 (Nat.le_trans HX.out.2.2.1.size hxb.size) (own_row_ge HX.out.1)
          have hkd := own_kind (own_below HX.out.1 hxb) (by decide)
          have ho6 : w6.ownsRow w2.heap.size 34 2 v6 (j + 1) (stCells (ss ++ [⟨false, some ⟨wr.heap.size + 1, 0, none⟩, S.size, (grownCap (wr.alloc (.cells #[.slice e.a e.n e.c, .string ⟨#[]⟩, .int .i64 e.k] 32)) S.size 0 5), e.is⟩])) := by rw [stCells_append]; exact hown6
          have hok6 : ∀ s ∈ ss ++ [(⟨false, some ⟨wr.heap.size + 1, 0, none⟩, S.size, (grownCap (wr.alloc (.cells #[.slice e.a e.n e.c, .string ⟨#[]⟩, .int .i64 e.k] 32)) S.size 0 5), e.is⟩ : St)], StD w6 s := fun s hs => by
            rcases List.mem_append.1 hs with hs | hs
            · exact ((HX.out.2.2.2.1 s hs).below hxb).grown hgr6 hkd
            · simp only [List.mem_singleton] at hs
              subst hs
              exact (HX.out.2.1.below hxb).grown hgr6 hkd
          have hm6 : (ss ++ [(⟨false, some ⟨wr.heap.size + 1, 0, none⟩, S.size, (grownCap (wr.alloc (.cells #[.slice e.a e.n e.c, .string ⟨#[]⟩, .int .i64 e.k] 32)) S.size 0 5), e.is⟩ : St)]).map (·.p) = (es.take (j + 1)).map Pf.is := by
            rw [List.map_append, hmp.out, List.take_add_one, HE.out.1]; simp
          have hl6 : (ss ++ [(⟨false, some ⟨wr.heap.size + 1, 0, none⟩, S.size, (grownCap (wr.alloc (.cells #[.slice e.a e.n e.c, .string ⟨#[]⟩, .int .i64 e.k] 32)) S.size 0 5), e.is⟩ : St)]).length = j + 1 := by rw [List.length_append, hsl]; rfl
          generalize ss ++ [(⟨false, some ⟨wr.heap.size + 1, 0, none⟩, S.size, (grownCap (wr.alloc (.cells #[.slice e.a e.n e.c, .string ⟨#[]⟩, .int .i64 e.k] 32)) S.size 0 5), e.is⟩ : St)] = ss6 at *
          have G1 := Lib.hid ho6
          have G2 := Lib.hid hok6
          have G3 := Lib.hid hm6
          have G4 := Lib.hid hb6
          clear hown6 hgr6 hxb hb6 ho6 hok6 hm6 hkd hc0 hc1 hc2 HX hmp
          go_wp2
          go_roundw
          case rel => exact ⟨j + 1, ss6, by omega, by go_num, hl6, G3, G1, G2, G4⟩
          case measure => simp [intOf]; omega
      · have q1 : ¬ (j : Int) < (yn : Int) := by omega
        have hwa : (wr.alloc (.cells #[.slice e.a e.n e.c, .string ⟨#[]⟩, .int .i64 e.k] 32)).heap.size = wr.heap.size + 1 := by simp
        have ba : Below wr.heap.size wr (wr.alloc (.cells #[.slice e.a e.n e.c, .string ⟨#[]⟩, .int .i64 e.k] 32)) := (Below.refl _ _).alloc (Nat.le_refl _) _
        have bb := ba.trans ((Lib.bytesWorld_below (wr.alloc (.cells #[.slice e.a e.n e.c, .string ⟨#[]⟩, .int .i64 e.k] 32)) 5 S).mono ba.size)
        have bc : Below (Lib.bytesWorld (wr.alloc (.cells #[.slice e.a e.n e.c, .string ⟨#[]⟩, .int .i64 e.k] 32)) 5 S).heap.size (Lib.bytesWorld (wr.alloc (.cells #[.slice e.a e.n e.c, .string ⟨#[]⟩, .int .i64 e.k] 32)) 5 S) ((Lib.bytesWorld (wr.alloc (.cells #[.slice e.a e.n e.c, .string ⟨#[]⟩, .int .i64 e.k] 32)) 5 S).alloc (.cells #[.bool false, .slice (some ⟨wr.heap.size + 1, 0, none⟩) S.size (grownCap (wr.alloc (.cells #[.slice e.a e.n e.c, .string ⟨#[]⟩, .int .i64 e.k] 32)) S.size 0 5)] 34)) := (Below.refl _ _).alloc (Nat.le_refl _) _
        have hall := bb.trans (bc.mono bb.size)
        have hst := (bytes_step (w := (wr.alloc (.cells #[.slice e.a e.n e.c, .string ⟨#[]⟩, .int .i64 e.k] 32))) hve HE.out.2 (grownCap (wr.alloc (.cells #[.slice e.a e.n e.c, .string ⟨#[]⟩, .int .i64 e.k] 32)) S.size 0 5)).below bc
        rw [hwa] at hst
        have HX := Lib.hid (And.intro (own_below hown.out hall) (And.intro hst (And.intro (hbb.out.trans (hall.mono hbb.out.size)) (And.intro (fun s hs => (hok.out s hs).below hall : ∀ s ∈ ss, StD ((Lib.bytesWorld (wr.alloc (.cells #[.slice e.a e.n e.c, .string ⟨#[]⟩, .int .i64 e.k] 32)) 5 S).alloc (.cells #[.bool false, .slice (some ⟨wr.heap.size + 1, 0, none⟩) S.size (grownCap (wr.alloc (.cells #[.slice e.a e.n e.c, .string ⟨#[]⟩, .int .i64 e.k] 32)) S.size 0 5)] 34)) s) (hbe.keep hall)))))
        have hszc := HX.out.2.2.1.size
        clear hwa ba bb bc hall hst hown hbb hok hbe
        go_wp2_with ((at_builtin; refine append1 rfl _ _ 28 rfl (w2.heap.size) 34 i0 (.agg #[.bool false, .slice none 0 0]) 2 32 Tryz.underlying28 hi hz0 hz1 hz2 rfl (by decide) _ _ _ rfl (HX.out.1) _ _ [.bool false, .slice (some ⟨wr.heap.size + 1, 0, none⟩) S.size (grownCap (wr.alloc (.cells #[.slice e.a e.n e.c, .string ⟨#[]⟩, .int .i64 e.k] 32)) S.size 0 5)] rfl (by simp) rfl rfl (by unfold maxLen; omega) (by omega) (by first | omega | (simp; omega)) ?_))
        intro v6 w6 hown6 hgr6
        have hxb : Below ((Lib.bytesWorld (wr.alloc (.cells #[.slice e.a e.n e.c, .string ⟨#[]⟩, .int .i64 e.k] 32)) 5 S).alloc (.cells #[.bool false, .slice (some ⟨wr.heap.size + 1, 0, none⟩) S.size (grownCap (wr.alloc (.cells #[.slice e.a e.n e.c, .string ⟨#[]⟩, .int .i64 e.k] 32)) S.size 0 5)] 34)).heap.size ((Lib.bytesWorld (wr.alloc (.cells #[.slice e.a e.n e.c, .string ⟨#[]⟩, .int .i64 e.k] 32)) 5 S).alloc (.cells #[.bool false, .slice (some ⟨wr.heap.size + 1, 0, none⟩) S.size (grownCap (wr.alloc (.cells #[.slice e.a e.n e.c, .string ⟨#[]⟩, .int .i64 e.k] 32)) S.size 0 5)] 34)) (((Lib.bytesWorld (wr.alloc (.cells #[.slice e.a e.n e.c, .string ⟨#[]⟩, .int .i64 e.k] 32)) 5 S).alloc (.cells #[.bool false, .slice (some ⟨wr.heap.size + 1, 0, none⟩) S.size (grownCap (wr.alloc (.cells #[.slice e.a e.n e.c, .string ⟨#[]⟩, .int .i64 e.k] 32)) S.size 0 5)] 34)).alloc (.cells #[.bool false, .slice (some ⟨wr.heap.size + 1, 0, none⟩) S.size (grownCap (wr.alloc (.cells #[.slice e.a e.n e.c, .string ⟨#[]⟩, .int .i64 e.k] 32)) S.size 0 5)] 34)) := (Below.refl _ _).alloc (Nat.le_refl _) _
        have hb6 : Below w2.heap.size w2 w6 := (HX.out.2.2.1.trans (hxb.mono HX.out.2.2.1.size)).grown hgr6 (Nat.le_trans HX.out.2.2.1.size hxb.size) (own_row_ge HX.out.1)
        have hkd := own_kind (own_below HX.out.1 hxb) (by decide)
        have ho6 : w6.ownsRow w2.heap.size 34 2 v6 (j + 1) (stCells (ss ++ [⟨false, some ⟨wr.heap.size + 1, 0, none⟩, S.size, (grownCap (wr.alloc (.cells #[.slice e.a e.n e.c, .string ⟨#[]⟩, .int .i64 e.k] 32)) S.size 0 5), e.is⟩])) := by rw [stCells_append]; exact hown6
        have hok6 : ∀ s ∈ ss ++ [(⟨false, some ⟨wr.heap.size + 1, 0, none⟩, S.size, (grownCap (wr.alloc (.cells #[.slice e.a e.n e.c, .string ⟨#[]⟩, .int .i64 e.k] 32)) S.size 0 5), e.is⟩ : St)], StD w6 s := fun s hs => by
          rcases List.mem_append.1 hs with hs | hs
          · exact ((HX.out.2.2.2.1 s hs).below hxb).grown hgr6 hkd
          · simp only [List.mem_singleton] at hs
            subst hs
            exact (HX.out.2.1.below hxb).grown hgr6 hkd
        have hm6 : (ss ++ [(⟨false, some ⟨wr.heap.size + 1, 0, none⟩, S.size, (grownCap (wr.alloc (.cells #[.slice e.a e.n e.c, .string ⟨#[]⟩, .int .i64 e.k] 32)) S.size 0 5), e.is⟩ : St)]).map (·.p) = (es.take (j + 1)).map Pf.is := by
          rw [List.map_append, hmp.out, List.take_add_one, HE.out.1]; simp
        have hl6 : (ss ++ [(⟨false, some ⟨wr.heap.size + 1, 0, none⟩, S.size, (grownCap (wr.alloc (.cells #[.slice e.a e.n e.c, .string ⟨#[]⟩, .int .i64 e.k] 32)) S.size 0 5), e.is⟩ : St)]).length = j + 1 := by rw [List.length_append, hsl]; rfl
        generalize ss ++ [(⟨false, some ⟨wr.heap.size + 1, 0, none⟩, S.size, (grownCap (wr.alloc (.cells #[.slice e.a e.n e.c, .string ⟨#[]⟩, .int .i64 e.k] 32)) S.size 0 5), e.is⟩ : St)] = ss6 at *
        have G1 := Lib.hid ho6
        have G2 := Lib.hid hok6
        have G3 := Lib.hid hm6
        have G4 := Lib.hid hb6
        clear hown6 hgr6 hxb hb6 ho6 hok6 hm6 hkd hc0 hc1 hc2 HX hmp
        go_wp2
        go_roundw
        case rel => exact ⟨j + 1, ss6, by omega, by go_num, hl6, G3, G1, G2, G4⟩
        case measure => simp [intOf]; omega
    · obtain rfl : j = N := by omega
      obtain ⟨A6, c6, rfl⟩ := own_slice hown.out
      have hmp2 : ss.map (fun s => (some s.p : Out)) = es.map fun e => (some e.is : Out) := by
        have h1 := hmp.out
        rw [List.take_of_length_le (by have := HV.out.2; omega)] at h1
        have h2 := congrArg (List.map (fun p => (some p : Out))) h1
        rw [List.map_map, List.map_map] at h2
        exact h2
      have hst : RSt wr A6 j ss := ⟨hsl, RC.of_own hown.out, fun s hs => (hok.out s hs).1⟩
      have hps := pfScript_c A6 j c6 ss z wr (H2.out.2.2.1.keep hbb.out) hst (by omega)
      rw [hmp2] at hps
      have HPS := Lib.hid (And.intro hps (And.intro (H2.out.2.1.keep hbb.out) (H2.out.1.trans (hbb.out.mono H2.out.1.size))))
      clear hmp hmp2 hst hps hok hown hbb H2
      go_wp2_with fail
      refine HPS.out.1.mono ?_
      rintro e5 w7 ⟨A7, c7, fs, rfl, hown7, hmap7, hin7, hb7⟩
      have hfl : fs.length = j := by have := congrArg List.length hmap7; simp at this; have := HV.out.2; omega
      rw [hfl] at hown7 ⊢
      have hre := RE.of_own hown7 hfl hin7
      have H9 := Lib.hid (And.intro hre (And.intro (HPS.out.2.1.keep hb7) (HPS.out.2.2.trans (hb7.mono HPS.out.2.2.size))))
      have HF := Lib.hid (And.intro hmap7 True.intro)
      clear hmap7 hown7 hin7 hb7 hre HPS
      obtain ⟨w9, hw9⟩ : ∃ w9, w9 = w7 := ⟨_, rfl⟩
      rw [← hw9] at H9 ⊢
      clear hw9
      obtain ⟨k, rfl⟩ : ∃ k, k = j := ⟨_, rfl⟩
      have hbw : Below w.heap.size w w := Below.refl _ _
      go_wp2_with fail
      go_loopw [77] (fun i wr => ∃ s : Nat, i = .int .i64 s ∧ s ≤ k ∧ Hid (Below w9.heap.size w9 wr)) (fun i _ => k - (intOf i).toNat)
      case atStart => exact ⟨0, rfl, Nat.zero_le _, Lib.hid (Below.refl _ _)⟩
      case round =>
        obtain ⟨s, rfl, hs, hbb⟩ := hrel
        by_cases hsk : s < k
        · obtain ⟨g1, o1, f, hA, hg1, hfs, hc0, hc1, hc2, hc3, hbf⟩ := (H9.out.1.keep hbb.out).at hsk
          subst hA
          obtain ⟨g2, o2, e, hA, hg2, hes, hd0, hd1, hd2, hbe⟩ := (H9.out.2.1.keep hbb.out).at hsk
          subst hA
          have hfo : f.is = Out.is (some e.is) := by
            have h1 := congrArg (fun l => l[s]?) HF.out.1
            simp only [List.getElem?_map, hfs, hes, Option.map_some, Option.some.injEq] at h1
            exact h1
          obtain ⟨f1, f2, f3⟩ := Pe.of_out hfo
          have f1' : f.bs = e.bs := f1
          have f2' : f.k = (e.k : Int) := f2
          have f3' : f.ok = true := f3
          rw [f1'] at hbf
          rw [f2'] at hc2
          rw [f3'] at hc3
          have hve := HV.out.1 e (List.mem_of_getElem? hes)
          have hfn : f.n ≤ 9223372036854775807 := by have := hbf.1; have h2 := hve.1; unfold isLen at h2; simp only [Pf.is] at h2; omega
          have hxa : Below wr.heap.size wr (wr.alloc (.cells #[.slice f.a f.n f.c, .string ⟨#[]⟩, .int .i64 e.k, .bool true] 40)) := (Below.refl _ _).alloc (Nat.le_refl _) _
          have hbox : Blk (wr.alloc (.cells #[.slice f.a f.n f.c, .string ⟨#[]⟩, .int .i64 e.k, .bool true] 40)) wr.heap.size 40 #[.slice f.a f.n f.c, .string ⟨#[]⟩, .int .i64 e.k, .bool true] := heap_alloc_new _ _
          obtain ⟨gx, hgx⟩ : ∃ gx, gx = wr.heap.size := ⟨_, rfl⟩
          have hb9x := hbb.out.trans (hxa.mono hbb.out.size)
          have c0 := (hxa.cell (p := ⟨g2, o2 + s * 3, none⟩) hg2).trans hd0
          have c1x := (hxa.cell (p := ⟨g2, o2 + s * 3 + 1, none⟩) hg2).trans hd1
          have c2x := (hxa.cell (p := ⟨g2, o2 + s * 3 + 2, none⟩) hg2).trans hd2
          have hg2x := Nat.lt_of_lt_of_le hg2 hxa.size
          have HX := Lib.hid (And.intro hgx (And.intro hbox (And.intro hb9x (And.intro (hbf.keep hxa) (And.intro (hbe.keep hxa) (And.intro c0 (And.intro c1x (And.intro c2x hg2x))))))))
          clear hgx hbox hxa hb9x hbf hbe c0 c1x c2x hg2x hfo f1 f2 f3 f1' f2' f3' hfs hes hd0 hd1 hd2
          go_wp2_with fail
          obtain ⟨hgx, hbox, hb9x, hbf, hbe, c0, c1x, c2x, hg2x⟩ := HX.out
          rw [← hgx] at hbox ⊢
          clear HX hc0 hc1 hc2 hc3 hgx
          generalize wr.alloc (.cells #[.slice f.a f.n f.c, .string ⟨#[]⟩, .int .i64 e.k, .bool true] 40) = w10 at *
          have hdr : Below w10.heap.size w10 w10.drew := ⟨rfl, rfl, rfl, Nat.le_refl _, fun _ _ => rfl⟩
          have lx := hbox.lt
          have rX : ∀ w', Below w10.heap.size w10 w' → ∀ i, w'.cell? ⟨gx, i, none⟩ = #[Value.slice f.a f.n f.c, .string ⟨#[]⟩, .int .i64 e.k, .bool true][i]? := fun w' h i => (h.cell (p := ⟨gx, i, none⟩) lx).trans (hbox.cell i)
          have q1 : (0 : Int) ≤ s ∧ (s : Int) < k := by omega
          have HQ := Lib.hid q1
          clear q1
          refine region_pick (Below w10.heap.size w10) [(0, false, none), (1, false, none), (2, false, none), (3, false, none), (4, false, none), (5, false, none), (6, false, none), (7, false, none), (8, false, none), (9, false, none), (10, false, none), (11, false, none), (12, false, none)] 13 (by kernel_rfl) (by kernel_rfl) (fun w w' h hb => h.trans (hb.mono h.size)) (hdr) ?_
          simp only [pickOps, List.getElem?_cons_zero, List.getElem?_cons_succ]
          repeat (first | (refine t_skip rfl ?_; (simp only [Act.put, List.setIfInBounds_toArray, List.set_cons_zero, List.set_cons_succ])) | (refine t_run ?_ rfl (fun w1 hw1 => ?_) ?_; rotate_left; (have r0 := rX w1 hw1; have r1 := HQ.out; have r2 := (hw1.cell (p := ⟨g2, o2 + s * 3, none⟩) hg2x).trans c0; have r3 := (hw1.cell (p := ⟨g2, o2 + s * 3 + 1, none⟩) hg2x).trans c1x; have r4 := (hw1.cell (p := ⟨g2, o2 + s * 3 + 2, none⟩) hg2x).trans c2x; go_simp; try (with_reducible rfl)); (simp only [Act.put, List.setIfInBounds_toArray, List.set_cons_zero, List.set_cons_succ])) | (refine t_call ?_ ?_ ?_ rfl (fun w1 hw1 => ?_) (fun w1 hw1 => ?_) ?_; rotate_left 3; (have r0 := rX w1 hw1; have r1 := HQ.out; have r2 := (hw1.cell (p := ⟨g2, o2 + s * 3, none⟩) hg2x).trans c0; have r3 := (hw1.cell (p := ⟨g2, o2 + s * 3 + 1, none⟩) hg2x).trans c1x; have r4 := (hw1.cell (p := ⟨g2, o2 + s * 3 + 2, none⟩) hg2x).trans c2x; go_simp; refine ⟨?_, ?_⟩ <;> with_reducible rfl); (first | (go_at_call 8; (with_reducible refine (samePf_eq f.a e.a f.n e.n f.c e.c e.bs e.k w1 (hbf.keep hw1) (hbe.keep hw1) hfn).mono ?_); rintro e w2 ⟨rfl, hb⟩; refine ⟨?_, hb⟩; with_reducible rfl) | (go_at_call 8; (refine (samePf_eq f.a e.a f.n e.n f.c e.c e.bs e.k w1 (hbf.keep hw1) (hbe.keep hw1) hfn).mono ?_); rintro e w2 ⟨rfl, hb⟩; refine ⟨?_, hb⟩; with_reducible rfl)); (simp only [Act.put, List.setIfInBounds_toArray, List.set_cons_zero, List.set_cons_succ])))
          intro w11 hw11
          simp only [List.drop_succ_cons, List.drop_zero]
          have HB := Lib.hid (hb9x.trans (hw11.mono hb9x.size))
          clear rX hdr hbox hbf hbe c0 c1x c2x hg2x
          go_wp2
          go_roundw
          case rel => exact ⟨s + 1, by go_num, by omega, HB⟩
          case measure => simp [intOf]; omega
        · obtain rfl : s = k := by omega
          have hb2 := H9.out.2.2.trans (hbb.out.mono H9.out.2.2.size)
          have hbF := hbw.trans (hb2.mono hbw.size)
          have HB := Lib.hid hbF
          clear hb2 hbF
          go_wp2
          go_returns
          exact ⟨rfl, HB.out⟩
end Go.Proofs.YtnoolheinkeocaaGreatDoor
