/-
  FnGateMoreDigits returns true for any two slices of bytes and any number; the slices read afterwards as they did.
  Conditions: the arguments, with the listed variables, are of bulk at most 1048576 (the second form of the statement); the variables z0, z4, z6noz and twelve more (tables, and strconv's two errors) hold what the program's text lays (the card ties that).
-/
import Derived.Test.YtaofindlomkbbaaDoorGMoreW
import Derived.Test.YtaofindlomkbbaaDoorOpen
namespace Go.Proofs.YtaofindlomkbbaaDoor.fnGateMoreDigits
open Go Go.RowKit Go.ChangeShapes Go.WideShapes Go.ChangeAt Go.Deep
set_option maxRecDepth 100000 in
theorem contract (H : Type) (enc : TypeId × Value → H) (W : World) (base : Nat) (args : Array Value) (ds gs : List (DataW H)) (before : List MemPlace)
    (hval : ∀ (j : Nat) t v, Tryd.f4.params[j]? = some t → args[j]? = some v → Value.okWide Tryd.prog W .any base t v)
    (hW : DataW.Whole enc Tryd.prog Tryd.f4.params.toList Rows.fnGateMoreDigitsSpec.vars false W args.toList ds gs before) (hL : laidMetH Tryd.prog Rows.fnGateMoreDigitsUptoRow.laid W) (hsh : W.ShapedOpen Tryd.prog)
    (hk : Rows.uptoSmall H (ds ++ gs) = true) :
    Calls Tryd.prog 4 args W fun e W' => ∃ v, e = .returned v ∧ Rows.fnGateMoreDigitsSpec.post enc Tryd.prog Tryd.f4 false true false false W args v W' := by
  obtain ⟨z, hz, ev, hv, hev, hgE⟩ := zs_of_laid15 hL hsh
  have hW' := hW
  have hlt : ∀ p ∈ before, p.block < W.heap.size := fun p hp => hW.lt p hp
  obtain ⟨p, q, hA0, hV, hbf, hfz, hnd⟩ := hW
  have hA : DataW.TrodAll enc Tryd.prog W 0 (fun _ => true) true Tryd.f4.params.toList args.toList ds p := hA0
  rw [Tryd.params4] at hA hval
  obtain ⟨rfl, rfl⟩ := trodVars_none hV
  have hkeep := fun W' (hb : Below W.heap.size W W') => trodAll_below (by kernel_rfl) hb _ _ _ _ (by kernel_rfl) hA (fun x hx => hlt x (by rw [hbf]; exact List.mem_append_left _ hx))
  obtain ⟨v0, vs0, d0, ds0, p0, q0, hargs, rfl, rfl, h0, r0⟩ := trodAll_cons hA
  obtain ⟨v1, vs1, d1, ds1, p1, q1, rfl, rfl, rfl, h1, r1⟩ := trodAll_cons r0
  obtain ⟨v2, vs2, d2, ds2, p2, q2, rfl, rfl, rfl, h2, r2⟩ := trodAll_cons r1
  obtain ⟨rfl, rfl, rfl⟩ := trodAll_nil r2
  obtain rfl : args = #[v0, v1, v2] := by cases args; simp_all
  have hb := bulk_all hk
  simp only [List.append_nil, Rows.uptoBulkAll] at hb
  obtain ⟨A0, n0, c0, b0, rfl, hr0, hA0, hn0⟩ := open_bytes (hval 0 _ v0 rfl rfl) h0
  obtain ⟨i1, rfl, -, -, -⟩ := open_int Tryd.underlying3 (hval 1 _ v1 rfl rfl) h1
  obtain ⟨A2, n2, c2, b2, rfl, hr2, hA2, hn2⟩ := open_bytes (hval 2 _ v2 rfl rfl) h2
  clear hA0
  refine (gateMore_walk A0 n0 c0 b0 i1 A2 n2 c2 b2 z W hz (pw_of_laid15 hL) (qw_of_laid15 hL) hr0 hA0 (by omega) hr2 (by omega)).mono fun e W' he => ?_
  obtain ⟨rfl, hbl⟩ := he
  exact ⟨_, rfl, _, _, _, [], _, [], hW', trodAll_cons_mk (shut_bool Tryd.underlying4 _) trodAll_mk0, hkeep W' hbl, rfl, hbl.frame _, fun h => by cases h⟩
theorem laid_met (os : Os) (args : Array Value) : laidMetH Tryd.prog Rows.fnGateMoreDigitsUptoRow.laid ((World.laidAll Tryd.prog os laid15).forCall (fun _ _ => 0) ⟨#[], args, []⟩).memory := by
  rw [MakeChecks.laidMetH_plain _ _ _ (by kernel_rfl)]
  exact laidMet_laidAll _ (by kernel_rfl) (by kernel_rfl)
theorem reads (os : Os) {H : Type} (enc : TypeId × Value → H) : ∃ places, DataW.whole enc Tryd.prog ((World.laidAll Tryd.prog os laid15).forCall (fun _ _ => 0) ⟨#[], #[.slice none 0 0, .int .i64 0, .slice none 0 0], []⟩).memory Tryd.f4.params.toList Rows.fnGateMoreDigitsSpec.vars false #[Value.slice none 0 0, Value.int .i64 0, .slice none 0 0].toList 8 = some ([.nil, .lit (.int .i64 0), .nil], [], places) :=
  ⟨[], by kernel_rfl⟩
set_option maxRecDepth 100000 in
theorem lifted (os : Os) (started : os.Started) (H : Type) (enc : TypeId × Value → H) (F : Stop.Interp) :
    ReturnsInHanded {} Tryd.checked os 4 .any ((Rows.OpenSpec.upto Rows.fnGateMoreDigitsSpec).preRow enc Tryd.prog Tryd.f4 Rows.fnGateMoreDigitsUptoRow.domain false Rows.fnGateMoreDigitsUptoRow.laid) (((Rows.OpenSpec.upto Rows.fnGateMoreDigitsSpec).at F).post enc Tryd.prog Tryd.f4 false true false false) := by
  obtain ⟨places, hx⟩ := reads os enc
  refine returnsInHanded_of_row (C := Tryd.checked) (s := Rows.OpenSpec.upto Rows.fnGateMoreDigitsSpec) own started (by kernel_rfl) Tryd.func4
    (witness_row_atRef (enc := enc) (C := Tryd.checked) false (World.laidAll Tryd.prog os laid15) #[.slice none 0 0, .int .i64 0, .slice none 0 0] (World.laidAll_os _ _ _) (by kernel_rfl) (by kernel_rfl) (by kernel_rfl)
      (OpenSpec.preRow_of_cond 8 hx (by kernel_rfl) (fun k hk => by cases hk; kernel_rfl) (by kernel_rfl) (laid_met os _))) ?_
  intro W base args ds gs before hval hW _ hcond _ hL hsh _
  exact contract H enc W base args ds gs before hval hW hL hsh (hcond _ rfl)
theorem said : Rows.FnGateMoreDigitsUptoSaid :=
  OpenClaim.holds_of_cond 4 Tryd.f4 rfl rfl rfl rfl rfl rfl rfl ⟨rfl, rfl, rfl, rfl, rfl⟩ rfl rfl rfl rfl rfl (by kernel_rfl) Tryd.func4 (by kernel_rfl)
    (of_decide_eq_true (by kernel_rfl)) (by unfold Func.isWrapper; first | (rw [if_pos (by decide +kernel)]; kernel_rfl) | (rw [if_neg (by decide +kernel)]; exact ⟨rfl, rfl⟩))
    (fun os started H enc _ F => by rw [OpenClaim.pre_eq_preRow]; exact lifted os started H enc F)
theorem plain (f : FuncId) (fn : Func) (hf : Tryd.pinned.checked.prog.funcNamed "loop.example/lib-g01423/laws.FnGateMoreDigits" = some f) (hfn : Tryd.pinned.checked.prog.funcs[f]? = some fn) :
    true = Tryd.pinned.checked.prog.looks [] ∧ ∀ (j : Nat) t, fn.params[j]? = some t → Tryd.pinned.checked.prog.wantsStandIn t = false := by
  obtain rfl : f = 4 := Option.some.inj ((show Tryd.prog.funcNamed "loop.example/lib-g01423/laws.FnGateMoreDigits" = some 4 by kernel_rfl).symm.trans hf) |>.symm
  obtain rfl : fn = Tryd.f4 := (Option.some.inj (Tryd.func4.symm.trans hfn)).symm
  refine ⟨by kernel_rfl, fun j t ht => ?_⟩
  rw [Tryd.params4] at ht
  have hm : t ∈ [22, 3, 22] := by simpa using Array.mem_of_getElem? ht
  have hall : ([22, 3, 22].all fun u => !Tryd.prog.wantsStandIn u) = true := by kernel_rfl
  exact (show Tryd.prog.wantsStandIn t = false by simpa using List.all_eq_true.1 hall t hm)
theorem card : Rows.FnGateMoreDigitsUptoCardSaid :=
  Claim7.holds_tied_plain_at .later [] _ _ _ _ said (fun _ h => by cases h) (by kernel_rfl) (fun _ h => by cases h) fnGateMoreDigitsUpto_row_tie rfl ⟨rfl, rfl⟩ (by kernel_rfl) rfl plain (by kernel_rfl)
end Go.Proofs.YtaofindlomkbbaaDoor.fnGateMoreDigits
