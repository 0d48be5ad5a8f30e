/-
  Plain facts about the texts of addresses: how the program writes them, and which bytes stand in them.
-/
import Derived.Test.YtaofindlomkbbaaDoorTextL
namespace Go.Proofs.YtaofindlomkbbaaDoor.Tx
/-- How many zero groups stand from place i on. -/
def runAt : List Nat → Nat
  | [] => 0
  | g :: r => if g = 0 then runAt r + 1 else 0
/-- The first longest run of at least two zero groups among those that begin ahead of place k; (255, 255): none. -/
def bestTo (gs : List Nat) : Nat → Nat × Nat
  | 0 => (255, 255)
  | k + 1 => if 2 ≤ runAt (gs.drop k) ∧ (bestTo gs k).2 - (bestTo gs k).1 < runAt (gs.drop k) then (k, k + runAt (gs.drop k)) else bestTo gs k
theorem runAt_take (gs : List Nat) : gs.take (runAt gs) = List.replicate (runAt gs) 0 := by
  induction gs with
  | nil => rfl
  | cons g r ih =>
    unfold runAt
    split
    · rename_i h; subst h; rw [List.take_succ_cons, ih, List.replicate_succ]
    · rfl
theorem runAt_le (gs : List Nat) : runAt gs ≤ gs.length := by
  induction gs with
  | nil => simp [runAt]
  | cons g r ih => unfold runAt; split <;> simp <;> omega
def runOf (gs : List Nat) : Option (Nat × Nat) := if (bestTo gs 8).1 = 255 then none else some (bestTo gs 8)
theorem bestTo_ok {gs : List Nat} (hl : gs.length = 8) : ∀ k, k ≤ 8 → (bestTo gs k = (255, 255)) ∨ ((bestTo gs k).1 < k ∧ RunOk gs (some (bestTo gs k)))
  | 0, _ => .inl rfl
  | k + 1, hk => by
    unfold bestTo
    split
    · rename_i h
      refine .inr ⟨by simp, ?_⟩
      have hle := runAt_le (gs.drop k)
      rw [List.length_drop] at hle
      refine ⟨by omega, by omega, ?_⟩
      have h1 := runAt_take (gs.drop k)
      rw [show k + runAt (gs.drop k) - k = runAt (gs.drop k) by omega, ← h1, ← List.drop_drop, List.take_append_drop, List.take_append_drop]
    · rcases bestTo_ok hl k (by omega) with h | h
      · exact .inl h
      · exact .inr ⟨by omega, h.2⟩
theorem runOf_ok {gs : List Nat} (hl : gs.length = 8) : RunOk gs (runOf gs) := by
  unfold runOf
  rcases bestTo_ok hl 8 (Nat.le_refl _) with h | h
  · rw [h]; simp [RunOk]
  · rw [if_neg (by omega)]; exact h.2
theorem bestTo_bounds {gs : List Nat} (hl : gs.length = 8) (k : Nat) (hk : k ≤ 8) : bestTo gs k = (255, 255) ∨ ((bestTo gs k).1 < k ∧ (bestTo gs k).1 < (bestTo gs k).2 ∧ (bestTo gs k).2 ≤ 8) := by
  rcases bestTo_ok hl k hk with h | h
  · exact .inl h
  · exact .inr ⟨h.1, h.2.1, h.2.2.1⟩
/-- What the writing loop writes from place i on. -/
def em (gs : List Nat) (a b : Nat) : Nat → Nat → List UInt8
  | 0, _ => []
  | f + 1, i =>
    if 8 ≤ i then [] else
    if i = a then 58 :: 58 :: (if 8 ≤ b then [] else hexT (gs.getD b 0) ++ em gs a b f (b + 1))
    else (if 0 < i then [58] else []) ++ (hexT (gs.getD i 0) ++ em gs a b f (i + 1))
theorem drop_cons {gs : List Nat} {i : Nat} (h : i < gs.length) : gs.drop i = gs.getD i 0 :: gs.drop (i + 1) := by
  rw [List.drop_eq_getElem_cons h, List.getD_eq_getElem?_getD, List.getElem?_eq_getElem h]; rfl
def sepT (i : Nat) (l : List Nat) : List UInt8 := if l = [] then [] else (if 0 < i then [58] else []) ++ joinT l
theorem em_tail {gs : List Nat} (hl : gs.length = 8) (a b : Nat) : ∀ f i, 8 - i ≤ f → (a < i ∨ 8 ≤ a) → em gs a b f i = sepT i (gs.drop i)
  | 0, i, hf, _ => by
    have : gs.drop i = [] := List.drop_eq_nil_of_le (by omega)
    rw [this]; rfl
  | f + 1, i, hf, ha => by
    unfold em
    by_cases h8 : 8 ≤ i
    · rw [if_pos h8, List.drop_eq_nil_of_le (by omega)]; rfl
    · rw [if_neg h8, if_neg (by omega), em_tail hl a b f (i + 1) (by omega) (by omega), drop_cons (i := i) (by omega)]
      unfold sepT
      rw [if_neg (by simp : ¬ (gs.getD i 0 :: gs.drop (i + 1) = []))]
      congr 1
      by_cases hd : gs.drop (i + 1) = []
      · rw [if_pos hd, hd]; simp [joinT]
      · rw [if_neg hd, joinT_cons _ hd, if_pos (by omega)]; rfl
theorem em_head {gs : List Nat} (hl : gs.length = 8) (a b : Nat) (hab : a < b) (hb : b ≤ 8) : ∀ f i, 8 - i ≤ f → i ≤ a → em gs a b f i = sepT i ((gs.take a).drop i) ++ 58 :: 58 :: joinT (gs.drop b)
  | 0, i, hf, hi => by omega
  | f + 1, i, hf, hi => by
    unfold em
    rw [if_neg (by omega)]
    by_cases hia : i = a
    · subst hia
      rw [if_pos rfl, List.drop_eq_nil_of_le (by rw [List.length_take]; omega)]
      unfold sepT
      rw [if_pos rfl, List.nil_append]
      by_cases h8 : 8 ≤ b
      · rw [if_pos h8, List.drop_eq_nil_of_le (by omega)]; rfl
      · rw [if_neg h8, em_tail hl i b f (b + 1) (by omega) (by omega), drop_cons (i := b) (by omega)]
        congr 2
        unfold sepT
        by_cases hd : gs.drop (b + 1) = []
        · rw [if_pos hd, hd]; simp [joinT]
        · rw [if_neg hd, joinT_cons _ hd, if_pos (by omega)]; rfl
    · rw [if_neg hia, em_head hl a b hab hb f (i + 1) (by omega) (by omega)]
      have hlt : (gs.take a).length = a := by rw [List.length_take]; omega
      have hd0 : (gs.take a).drop i = gs.getD i 0 :: (gs.take a).drop (i + 1) := by
        rw [drop_cons (by omega)]
        congr 1
        rw [List.getD_eq_getElem?_getD, List.getD_eq_getElem?_getD, List.getElem?_take_of_lt (by omega)]
      rw [hd0]
      unfold sepT
      rw [if_neg (by simp : ¬ (gs.getD i 0 :: (gs.take a).drop (i + 1) = []))]
      simp only [List.append_assoc]
      congr 1
      by_cases hd : (gs.take a).drop (i + 1) = []
      · rw [if_pos hd, hd]; simp [joinT]
      · rw [if_neg hd, joinT_cons _ hd, if_pos (by omega)]; simp
theorem em_v6 {gs : List Nat} (hl : gs.length = 8) : em gs (bestTo gs 8).1 (bestTo gs 8).2 8 0 = v6T gs (runOf gs) := by
  unfold runOf
  rcases bestTo_bounds hl 8 (Nat.le_refl _) with h | ⟨h1, h2, h3⟩
  · rw [h, if_pos rfl, em_tail hl 255 255 8 0 (by omega) (by omega)]
    have : gs ≠ [] := by intro h; subst h; simp at hl
    simp [sepT, v6T, this]
  · rw [if_neg (by omega), em_head hl _ _ h2 h3 8 0 (by omega) (by omega)]
    unfold v6T sepT
    simp only [List.drop_zero, Nat.lt_irrefl, if_false, List.nil_append]
    by_cases hd : gs.take (bestTo gs 8).1 = []
    · rw [if_pos hd, hd]; simp [joinT]
    · rw [if_neg hd]
/-- The groups of sixteen bytes. -/
def groups : List UInt8 → List Nat
  | a :: b :: r => (a.toNat * 256 + b.toNat) :: groups r
  | _ => []
theorem groups_len : ∀ (n : Nat) (bs : List UInt8), bs.length = 2 * n → (groups bs).length = n
  | 0, bs, h => by match bs, h with | [], _ => rfl
  | n + 1, bs, h => by
    match bs, h with
    | a :: b :: r, h => simp only [groups, List.length_cons]; rw [groups_len n r (by simp at h; omega)]
theorem groups_bytes : ∀ (n : Nat) (bs : List UInt8), bs.length = 2 * n → bytesOf (groups bs) = bs
  | 0, bs, h => by match bs, h with | [], _ => rfl
  | n + 1, bs, h => by
    match bs, h with
    | a :: b :: r, h =>
      simp only [groups, bytesOf, groups_bytes n r (by simp at h; omega)]
      have ha := UInt8.toNat_lt a
      have hb := UInt8.toNat_lt b
      have e1 : hi8 (a.toNat * 256 + b.toNat) = a := by
        apply UInt8.toNat_inj.1; unfold hi8; rw [UInt8.toNat_ofNat']; omega
      have e2 : lo8 (a.toNat * 256 + b.toNat) = b := by
        apply UInt8.toNat_inj.1; unfold lo8; rw [UInt8.toNat_ofNat']; omega
      rw [e1, e2]
theorem groups_lt : ∀ (n : Nat) (bs : List UInt8), bs.length = 2 * n → Gs (groups bs)
  | 0, bs, h => by match bs, h with | [], _ => exact fun x hx => by cases hx
  | n + 1, bs, h => by
    match bs, h with
    | a :: b :: r, h =>
      intro x hx
      simp only [groups, List.mem_cons] at hx
      rcases hx with rfl | hx
      · have ha := UInt8.toNat_lt a
        have hb := UInt8.toNat_lt b
        omega
      · exact groups_lt n r (by simp at h; omega) x hx
/-- Whether sixteen bytes are those of an IPv4 address inside IPv6. -/
def in6 (bs : List UInt8) : Bool := bs.take 12 == List.replicate 10 0 ++ [255, 255]
/-- The text of an address of four or sixteen bytes. -/
def adT (bs : List UInt8) : List UInt8 :=
  if bs.length = 4 then v4T (bs.getD 0 0) (bs.getD 1 0) (bs.getD 2 0) (bs.getD 3 0)
  else if in6 bs then pre6 ++ v4T (bs.getD 12 0) (bs.getD 13 0) (bs.getD 14 0) (bs.getD 15 0)
  else v6T (groups bs) (runOf (groups bs))
theorem pA_ad {bs : List UInt8} (h : bs.length = 4 ∨ bs.length = 16) : pA (adT bs) = some bs := by
  unfold adT
  rcases h with h | h
  · rw [if_pos h]
    match bs, h with
    | [a, b, c, d], _ => exact pA_v4 a b c d
  · rw [if_neg (by omega)]
    by_cases h6 : in6 bs = true
    · rw [if_pos h6]
      rw [pA_4in6]
      unfold in6 at h6
      rw [beq_iff_eq] at h6
      have hd : bs.drop 12 = [bs.getD 12 0, bs.getD 13 0, bs.getD 14 0, bs.getD 15 0] := by
        match bs, h with
        | [_, _, _, _, _, _, _, _, _, _, _, _, _, _, _, _], _ => rfl
      rw [← hd]
      conv => rhs; rw [← List.take_append_drop 12 bs, h6]
      simp
    · rw [if_neg h6, pA_v6 (groups_len 8 bs (by omega)) (groups_lt 8 bs (by omega)) _ (runOf_ok (groups_len 8 bs (by omega))), groups_bytes 8 bs (by omega)]
/-- The bytes that stand in the text of an address. -/
def adB (c : UInt8) : Prop := (∃ d, hexv c = some d) ∨ c = 46 ∨ c = 58
theorem adB_dec {x : Nat} (h : x < 256) : ∀ c ∈ decT x, adB c := fun c hc => by obtain ⟨d, hd, rfl⟩ := decT_mem h c hc; exact .inl ⟨d, hexv_dig hd⟩
theorem adB_hex {x : Nat} (h : x < 65536) : ∀ c ∈ hexT x, adB c := fun c hc => by obtain ⟨d, hd, rfl⟩ := hexT_mem h c hc; exact .inl ⟨d, hexv_hdig hd⟩
theorem adB_v4 (b0 b1 b2 b3 : UInt8) : ∀ c ∈ v4T b0 b1 b2 b3, adB c := fun c hc => by
  simp only [v4T, List.mem_append, List.mem_cons] at hc
  rcases hc with h | rfl | h | rfl | h | rfl | h
  · exact adB_dec (UInt8.toNat_lt _) c h
  · exact .inr (.inl rfl)
  · exact adB_dec (UInt8.toNat_lt _) c h
  · exact .inr (.inl rfl)
  · exact adB_dec (UInt8.toNat_lt _) c h
  · exact .inr (.inl rfl)
  · exact adB_dec (UInt8.toNat_lt _) c h
theorem adB_join {gs : List Nat} (hg : Gs gs) : ∀ c ∈ joinT gs, adB c := by
  induction gs with
  | nil => intro c hc; cases hc
  | cons g r ih =>
    intro c hc
    by_cases hr : r = []
    · subst hr; exact adB_hex (hg g (by simp)) c hc
    · rw [joinT_cons g hr] at hc
      simp only [List.mem_append, List.mem_cons] at hc
      rcases hc with h | rfl | h
      · exact adB_hex (hg g (by simp)) c h
      · exact .inr (.inr rfl)
      · exact ih (fun x hx => hg x (by simp [hx])) c h
theorem adB_v6 {gs : List Nat} (hg : Gs gs) (run : Option (Nat × Nat)) : ∀ c ∈ v6T gs run, adB c := by
  intro c hc
  match run, hc with
  | none, hc => exact adB_join hg c hc
  | some (a, b), hc =>
    have hc : c ∈ joinT (gs.take a) ++ 58 :: 58 :: joinT (gs.drop b) := hc
    simp only [List.mem_append, List.mem_cons] at hc
    rcases hc with h | rfl | rfl | h
    · exact adB_join (fun x hx => hg x (List.mem_of_mem_take hx)) c h
    · exact .inr (.inr rfl)
    · exact .inr (.inr rfl)
    · exact adB_join (fun x hx => hg x (List.mem_of_mem_drop hx)) c h
theorem adB_ad {bs : List UInt8} (h : bs.length = 4 ∨ bs.length = 16) : ∀ c ∈ adT bs, adB c := by
  intro c hc
  unfold adT at hc
  split at hc
  · exact adB_v4 _ _ _ _ c hc
  · split at hc
    · rcases List.mem_append.1 hc with h | h
      · simp only [pre6, List.mem_cons, List.not_mem_nil, or_false] at h
        rcases h with rfl | rfl | rfl | rfl | rfl | rfl | rfl
        all_goals first | exact .inr (.inr rfl) | exact .inl ⟨15, rfl⟩
      · exact adB_v4 _ _ _ _ c h
    · rename_i h1 _
      have h16 : bs.length = 16 := by omega
      exact adB_v6 (groups_lt 8 bs (by omega)) _ c hc
/-- A text with another byte than these is no address. -/
theorem p4_bad : ∀ (s : List UInt8) (v d : Nat) (fs : List UInt8), p4 s v d fs ≠ none → ∀ c ∈ s, adB c
  | [], _, _, _, _ => fun c hc => by cases hc
  | x :: t, v, d, fs, h => by
    unfold p4 at h
    split at h
    · rename_i hx
      have hx' : adB x := by
        unfold isDig at hx
        simp only [Bool.and_eq_true, decide_eq_true_eq] at hx
        exact .inl ⟨x.toNat - 48, by unfold hexv; rw [if_pos hx]⟩
      split at h
      · exact absurd rfl h
      · split at h
        · exact absurd rfl h
        · intro c hc
          rcases List.mem_cons.1 hc with rfl | hc
          · exact hx'
          · exact p4_bad t _ _ _ h c hc
    · split at h
      · rename_i hx
        split at h
        · exact absurd rfl h
        · split at h
          · exact absurd rfl h
          · intro c hc
            rcases List.mem_cons.1 hc with rfl | hc
            · exact .inr (.inl hx)
            · exact p4_bad t _ _ _ h c hc
      · exact absurd rfl h
theorem grp_pre : ∀ (s : List UInt8) (acc off a o : Nat), grp s acc off = some (a, o) → off ≤ o ∧ ∀ c ∈ s.take (o - off), adB c
  | [], acc, off, a, o, h => by
    unfold grp at h
    injection h with h
    injection h with h1 h2
    subst h2
    exact ⟨Nat.le_refl _, fun c hc => by simp at hc⟩
  | x :: t, acc, off, a, o, h => by
    unfold grp at h
    split at h
    · injection h with h
      injection h with h1 h2
      subst h2
      exact ⟨Nat.le_refl _, fun c hc => by simp at hc⟩
    · rename_i d hd
      split at h
      · cases h
      · obtain ⟨h1, h2⟩ := grp_pre t _ _ a o h
        refine ⟨by omega, fun c hc => ?_⟩
        rw [show o - off = (o - (off + 1)) + 1 by omega, List.take_succ_cons] at hc
        rcases List.mem_cons.1 hc with rfl | hc
        · exact .inl ⟨d, hd⟩
        · exact h2 c hc
theorem step_bad (s : List UInt8) (ell : Option Nat) (out : List UInt8) :
    match step s ell out with
    | .bad => True
    | .done _ _ => ∀ c ∈ s, adB c
    | .more s' _ _ => (∀ c ∈ s', adB c) → ∀ c ∈ s, adB c := by
  unfold step
  cases hg : grp s 0 0 with
  | none => trivial
  | some ao =>
    obtain ⟨acc, off⟩ := ao
    obtain ⟨_, hpre⟩ := grp_pre s 0 0 acc off hg
    rw [Nat.sub_zero] at hpre
    have hall : (∀ c ∈ s.drop off, adB c) → ∀ c ∈ s, adB c := fun hd c hc => by
      rw [← List.take_append_drop off s] at hc
      rcases List.mem_append.1 hc with h | h
      · exact hpre c h
      · exact hd c h
    simp only
    by_cases h0 : off = 0
    · rw [if_pos h0]; trivial
    · rw [if_neg h0]
      cases hd : s.drop off with
      | nil => exact hall (by rw [hd]; intro c hc; cases hc)
      | cons x t =>
        simp only
        by_cases h46 : x = 46
        · rw [if_pos h46]
          by_cases c1 : ell = none ∧ out.length ≠ 12
          · rw [if_pos c1]; trivial
          · rw [if_neg c1]
            by_cases c2 : 16 < out.length + 4
            · rw [if_pos c2]; trivial
            · rw [if_neg c2]
              cases hp : p4 s 0 0 [] with
              | none => trivial
              | some fs => exact p4_bad s 0 0 [] (by rw [hp]; simp)
        · rw [if_neg h46]
          by_cases h58 : x = 58
          · subst h58
            rw [if_neg (by simp)]
            cases t with
            | nil => trivial
            | cons y t' =>
              simp only
              have hx : adB 58 := .inr (.inr rfl)
              by_cases hy : y = 58
              · subst hy
                rw [if_pos rfl]
                by_cases c1 : ell ≠ none
                · rw [if_pos c1]; trivial
                · rw [if_neg c1]
                  by_cases ht : t' = []
                  · rw [if_pos ht]
                    subst ht
                    exact hall (by rw [hd]; intro c hc; simp at hc; rw [hc]; exact hx)
                  · rw [if_neg ht]
                    intro h
                    exact hall (by
                      rw [hd]; intro c hc
                      rcases List.mem_cons.1 hc with rfl | hc
                      · exact hx
                      · rcases List.mem_cons.1 hc with rfl | hc
                        · exact hx
                        · exact h c hc)
              · rw [if_neg hy]
                intro h
                exact hall (by
                  rw [hd]; intro c hc
                  rcases List.mem_cons.1 hc with rfl | hc
                  · exact hx
                  · exact h c hc)
          · rw [if_pos h58]; trivial
theorem loop_bad : ∀ (n : Nat) (s : List UInt8) (ell : Option Nat) (out : List UInt8), loop6 n s ell out ≠ none → ∀ c ∈ s, adB c
  | 0, _, _, _, h => absurd rfl h
  | n + 1, s, ell, out, h => by
    have hs := step_bad s ell out
    unfold loop6 at h
    split at h
    · exact absurd rfl h
    · rename_i he; rw [he] at hs; exact hs
    · rename_i he; rw [he] at hs; exact hs (loop_bad n _ _ _ h)
theorem fin6_ne {x : Option (Option Nat × List UInt8)} (h : fin6 x ≠ none) : x ≠ none := by rintro rfl; exact h rfl
theorem p6_bad (s : List UInt8) (h : p6 s ≠ none) : ∀ c ∈ s, adB c := by
  unfold p6 at h
  split at h
  · rename_i t
    have hx : adB 58 := .inr (.inr rfl)
    intro c hc
    rcases List.mem_cons.1 hc with rfl | hc
    · exact hx
    · rcases List.mem_cons.1 hc with rfl | hc
      · exact hx
      · by_cases ht : t = []
        · subst ht; cases hc
        · rw [if_neg ht] at h
          exact loop_bad _ _ _ _ (fin6_ne h) c hc
  · exact loop_bad _ _ _ _ (fin6_ne h)
theorem pA_bad (s : List UInt8) (h : pA s ≠ none) : ∀ c ∈ s, adB c := by
  unfold pA at h
  split at h
  · split at h
    · exact p4_bad _ _ _ _ h
    · split at h
      · exact p6_bad _ h
      · exact absurd rfl h
  · exact absurd rfl h
end Go.Proofs.YtaofindlomkbbaaDoor.Tx
