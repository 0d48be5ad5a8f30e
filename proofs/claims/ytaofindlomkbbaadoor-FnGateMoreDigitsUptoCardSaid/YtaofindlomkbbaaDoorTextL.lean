/-
  Plain facts about the texts of addresses: what is written, and that it is read back. No program in sight.
-/
namespace Go.Proofs.YtaofindlomkbbaaDoor.Tx
def dig (d : Nat) : UInt8 := UInt8.ofNat (48 + d)
def hdig (d : Nat) : UInt8 := UInt8.ofNat (if d < 10 then 48 + d else 87 + d)
/-- The decimal digits of a number below 256. -/
def decT (x : Nat) : List UInt8 := (if 100 ≤ x then [dig (x / 100)] else []) ++ ((if 10 ≤ x then [dig (x / 10 % 10)] else []) ++ [dig (x % 10)])
/-- The hexadecimal digits of a number below 65536. -/
def hexT (x : Nat) : List UInt8 := (if 4096 ≤ x then [hdig (x / 4096)] else []) ++ ((if 256 ≤ x then [hdig (x / 256 % 16)] else []) ++ ((if 16 ≤ x then [hdig (x / 16 % 16)] else []) ++ [hdig (x % 16)]))
theorem dig_nat {d : Nat} (h : d < 10) : (dig d).toNat = 48 + d := by unfold dig; rw [UInt8.toNat_ofNat']; omega
theorem hdig_nat {d : Nat} (h : d < 16) : (hdig d).toNat = if d < 10 then 48 + d else 87 + d := by
  unfold hdig; rw [UInt8.toNat_ofNat']; split <;> omega
def isDig (c : UInt8) : Bool := decide (48 ≤ c.toNat) && decide (c.toNat ≤ 57)
theorem dig_isDig {d : Nat} (h : d < 10) : isDig (dig d) = true := by unfold isDig; rw [dig_nat h]; simp; omega
/-- The value of a hexadecimal digit. -/
def hexv (c : UInt8) : Option Nat :=
  if 48 ≤ c.toNat ∧ c.toNat ≤ 57 then some (c.toNat - 48) else if 97 ≤ c.toNat ∧ c.toNat ≤ 102 then some (c.toNat - 87) else if 65 ≤ c.toNat ∧ c.toNat ≤ 70 then some (c.toNat - 55) else none
theorem hexv_hdig {d : Nat} (h : d < 16) : hexv (hdig d) = some d := by
  unfold hexv; rw [hdig_nat h]
  by_cases h1 : d < 10
  · rw [if_pos h1, if_pos (by omega)]; congr 1; omega
  · rw [if_neg h1, if_neg (by omega), if_pos (by omega)]; congr 1; omega
theorem hexv_dig {d : Nat} (h : d < 10) : hexv (dig d) = some d := by
  unfold hexv; rw [dig_nat h, if_pos (by omega)]; congr 1; omega
theorem hexv_lt {c : UInt8} {d : Nat} (h : hexv c = some d) : d < 16 := by
  unfold hexv at h
  split at h
  · injection h; omega
  · split at h
    · injection h; omega
    · split at h
      · injection h; omega
      · cases h
/-- What parseIPv4Fields reads. -/
def p4 : List UInt8 → Nat → Nat → List UInt8 → Option (List UInt8)
  | [], val, _, fs => if fs.length < 3 then none else some (fs ++ [UInt8.ofNat val])
  | c :: t, val, dl, fs =>
    if isDig c then
      if dl = 1 ∧ val = 0 then none else if 255 < val * 10 + (c.toNat - 48) then none else p4 t (val * 10 + (c.toNat - 48)) (dl + 1) fs
    else if c = 46 then
      if dl = 0 ∨ t = [] then none else if fs.length = 3 then none else p4 t 0 0 (fs ++ [UInt8.ofNat val])
    else none
theorem p4_dig {d val dl : Nat} {t fs : List UInt8} (h : d < 10) (h1 : ¬ (dl = 1 ∧ val = 0)) (h2 : val * 10 + d ≤ 255) : p4 (dig d :: t) val dl fs = p4 t (val * 10 + d) (dl + 1) fs := by
  conv => lhs; unfold p4
  rw [if_pos (dig_isDig h), if_neg h1, dig_nat h, show 48 + d - 48 = d by omega, if_neg (by omega)]
theorem p4_dec {x : Nat} (h : x < 256) (t fs : List UInt8) : ∃ dl, 0 < dl ∧ p4 (decT x ++ t) 0 0 fs = p4 t x dl fs := by
  unfold decT
  by_cases h1 : 100 ≤ x
  · rw [if_pos h1, if_pos (by omega)]
    refine ⟨3, by omega, ?_⟩
    simp only [List.cons_append, List.nil_append]
    rw [p4_dig (by omega) (by omega) (by omega), p4_dig (by omega) (by omega) (by omega), p4_dig (by omega) (by omega) (by omega)]
    congr 1; omega
  · rw [if_neg h1]
    by_cases h2 : 10 ≤ x
    · rw [if_pos h2]
      refine ⟨2, by omega, ?_⟩
      simp only [List.cons_append, List.nil_append]
      rw [p4_dig (by omega) (by omega) (by omega), p4_dig (by omega) (by omega) (by omega)]
      congr 1; omega
    · rw [if_neg h2]
      refine ⟨1, by omega, ?_⟩
      simp only [List.cons_append, List.nil_append]
      rw [p4_dig (by omega) (by omega) (by omega)]
      congr 1; omega
theorem p4_dot {val dl : Nat} {t fs : List UInt8} (h : 0 < dl) (ht : t ≠ []) (hf : fs.length < 3) : p4 (46 :: t) val dl fs = p4 t 0 0 (fs ++ [UInt8.ofNat val]) := by
  conv => lhs; unfold p4
  rw [if_neg (by decide), if_pos rfl, if_neg (by simp [ht]; omega), if_neg (by omega)]
/-- The text of an IPv4 address. -/
def v4T (b0 b1 b2 b3 : UInt8) : List UInt8 := decT b0.toNat ++ 46 :: (decT b1.toNat ++ 46 :: (decT b2.toNat ++ 46 :: decT b3.toNat))
theorem decT_ne (x : Nat) : decT x ≠ [] := by unfold decT; simp
theorem p4_v4 (b0 b1 b2 b3 : UInt8) : p4 (v4T b0 b1 b2 b3) 0 0 [] = some [b0, b1, b2, b3] := by
  unfold v4T
  obtain ⟨d0, h0, e0⟩ := p4_dec (x := b0.toNat) (UInt8.toNat_lt b0) (46 :: (decT b1.toNat ++ 46 :: (decT b2.toNat ++ 46 :: decT b3.toNat))) []
  obtain ⟨d1, h1, e1⟩ := p4_dec (x := b1.toNat) (UInt8.toNat_lt b1) (46 :: (decT b2.toNat ++ 46 :: decT b3.toNat)) [b0]
  obtain ⟨d2, h2, e2⟩ := p4_dec (x := b2.toNat) (UInt8.toNat_lt b2) (46 :: decT b3.toNat) [b0, b1]
  obtain ⟨d3, h3, e3⟩ := p4_dec (x := b3.toNat) (UInt8.toNat_lt b3) [] [b0, b1, b2]
  rw [List.append_nil] at e3
  rw [e0, p4_dot h0 (by simp) (by simp), UInt8.ofNat_toNat, List.nil_append, e1, p4_dot h1 (by simp) (by simp), UInt8.ofNat_toNat, List.cons_append, List.nil_append, e2, p4_dot h2 (by exact decT_ne _) (by simp), UInt8.ofNat_toNat]
  rw [show [b0, b1] ++ [b2] = [b0, b1, b2] from rfl, e3]
  unfold p4
  simp
/-- The run of hexadecimal digits at the head of a text: its value, and how many there are; none if there are more than four. -/
def grp : List UInt8 → Nat → Nat → Option (Nat × Nat)
  | [], acc, off => some (acc, off)
  | c :: t, acc, off =>
    match hexv c with
    | none => some (acc, off)
    | some d => if 3 < off then none else grp t (acc * 16 + d) (off + 1)
theorem grp_cons {c : UInt8} {t : List UInt8} {acc off d : Nat} (h : hexv c = some d) (ho : off ≤ 3) : grp (c :: t) acc off = grp t (acc * 16 + d) (off + 1) := by
  conv => lhs; unfold grp
  rw [h]
  exact if_neg (by omega)
theorem grp_stop {t : List UInt8} {acc off : Nat} (h : ∀ c r, t = c :: r → hexv c = none) : grp t acc off = some (acc, off) := by
  unfold grp
  cases t with
  | nil => rfl
  | cons c r => simp [h c r rfl]
/-- What stands behind a run does not begin with a hexadecimal digit. -/
def Stops (t : List UInt8) : Prop := ∀ c r, t = c :: r → hexv c = none
theorem grp_hex {x : Nat} (h : x < 65536) {t : List UInt8} (ht : Stops t) : grp (hexT x ++ t) 0 0 = some (x, (hexT x).length) := by
  unfold hexT
  by_cases h1 : 4096 ≤ x
  · rw [if_pos h1, if_pos (by omega), if_pos (by omega)]
    simp only [List.cons_append, List.nil_append]
    rw [grp_cons (hexv_hdig (by omega)) (by omega), grp_cons (hexv_hdig (by omega)) (by omega), grp_cons (hexv_hdig (by omega)) (by omega), grp_cons (hexv_hdig (by omega)) (by omega), grp_stop ht]
    simp; omega
  · rw [if_neg h1]
    by_cases h2 : 256 ≤ x
    · rw [if_pos h2, if_pos (by omega)]
      simp only [List.cons_append, List.nil_append]
      rw [grp_cons (hexv_hdig (by omega)) (by omega), grp_cons (hexv_hdig (by omega)) (by omega), grp_cons (hexv_hdig (by omega)) (by omega), grp_stop ht]
      simp; omega
    · rw [if_neg h2]
      by_cases h3 : 16 ≤ x
      · rw [if_pos h3]
        simp only [List.cons_append, List.nil_append]
        rw [grp_cons (hexv_hdig (by omega)) (by omega), grp_cons (hexv_hdig (by omega)) (by omega), grp_stop ht]
        simp; omega
      · rw [if_neg h3]
        simp only [List.cons_append, List.nil_append]
        rw [grp_cons (hexv_hdig (by omega)) (by omega), grp_stop ht]
        simp; omega
theorem hexT_len {x : Nat} : 0 < (hexT x).length := by unfold hexT; simp only [List.length_append, List.length_cons, List.length_nil]; omega
theorem hexT_ne (x : Nat) : hexT x ≠ [] := by unfold hexT; simp
theorem grp_dec {x : Nat} (h : x < 256) {t : List UInt8} (ht : Stops t) : ∃ acc, grp (decT x ++ t) 0 0 = some (acc, (decT x).length) := by
  unfold decT
  by_cases h1 : 100 ≤ x
  · rw [if_pos h1, if_pos (by omega)]
    simp only [List.cons_append, List.nil_append]
    rw [grp_cons (hexv_dig (by omega)) (by omega), grp_cons (hexv_dig (by omega)) (by omega), grp_cons (hexv_dig (by omega)) (by omega), grp_stop ht]
    exact ⟨_, rfl⟩
  · rw [if_neg h1]
    by_cases h2 : 10 ≤ x
    · rw [if_pos h2]
      simp only [List.cons_append, List.nil_append]
      rw [grp_cons (hexv_dig (by omega)) (by omega), grp_cons (hexv_dig (by omega)) (by omega), grp_stop ht]
      exact ⟨_, rfl⟩
    · rw [if_neg h2]
      simp only [List.cons_append, List.nil_append]
      rw [grp_cons (hexv_dig (by omega)) (by omega), grp_stop ht]
      exact ⟨_, rfl⟩
theorem decT_len (x : Nat) : 0 < (decT x).length := by unfold decT; simp only [List.length_append, List.length_cons, List.length_nil]; omega
def hi8 (x : Nat) : UInt8 := UInt8.ofNat (x / 256)
def lo8 (x : Nat) : UInt8 := UInt8.ofNat x
/-- One round of parseIPv6: what is left, where the ellipsis is, the bytes so far; or the end. -/
inductive St where
  | bad
  | done (ell : Option Nat) (out : List UInt8)
  | more (s : List UInt8) (ell : Option Nat) (out : List UInt8)
def step (s : List UInt8) (ell : Option Nat) (out : List UInt8) : St :=
  match grp s 0 0 with
  | none => .bad
  | some (acc, off) =>
    if off = 0 then .bad else
    match s.drop off with
    | [] => .done ell (out ++ [hi8 acc, lo8 acc])
    | c :: t =>
      if c = 46 then
        if ell = none ∧ out.length ≠ 12 then .bad else if 16 < out.length + 4 then .bad else
        match p4 s 0 0 [] with
        | none => .bad
        | some fs => .done ell (out ++ fs)
      else if c ≠ 58 then .bad
      else match t with
        | [] => .bad
        | d :: t' =>
          if d = 58 then
            if ell ≠ none then .bad else if t' = [] then .done (some (out.length + 2)) (out ++ [hi8 acc, lo8 acc]) else .more t' (some (out.length + 2)) (out ++ [hi8 acc, lo8 acc])
          else .more (d :: t') ell (out ++ [hi8 acc, lo8 acc])
/-- The rounds; a text that is left when there is no room is an error. -/
def loop6 : Nat → List UInt8 → Option Nat → List UInt8 → Option (Option Nat × List UInt8)
  | 0, _, _, _ => none
  | n + 1, s, ell, out =>
    match step s ell out with
    | .bad => none
    | .done e o => some (e, o)
    | .more s' e o => loop6 n s' e o
def fin6 : Option (Option Nat × List UInt8) → Option (List UInt8)
  | none => none
  | some (ell, out) =>
    if out.length < 16 then
      match ell with
      | none => none
      | some e => some (out.take e ++ (List.replicate (16 - out.length) 0 ++ out.drop e))
    else if ell = none then some out else none
/-- What parseIPv6 reads from a text without a percent sign. -/
def p6 (s : List UInt8) : Option (List UInt8) :=
  match s with
  | 58 :: 58 :: t => if t = [] then some (List.replicate 16 0) else fin6 (loop6 8 t (some 0) [])
  | s => fin6 (loop6 8 s none [])
def special (c : UInt8) : Bool := c == 46 || c == 58 || c == 37
/-- What ParseAddr reads from a text that has no percent sign behind its first point or colon. -/
def pA (s : List UInt8) : Option (List UInt8) :=
  match s.find? special with
  | some c => if c = 46 then p4 s 0 0 [] else if c = 58 then p6 s else none
  | none => none
def joinT : List Nat → List UInt8
  | [] => []
  | [g] => hexT g
  | g :: r => hexT g ++ 58 :: joinT r
theorem joinT_cons (g : Nat) {r : List Nat} (h : r ≠ []) : joinT (g :: r) = hexT g ++ 58 :: joinT r := by
  cases r with
  | nil => exact absurd rfl h
  | cons a b => rfl
def bytesOf : List Nat → List UInt8
  | [] => []
  | g :: r => hi8 g :: lo8 g :: bytesOf r
theorem bytesOf_len (gs : List Nat) : (bytesOf gs).length = 2 * gs.length := by
  induction gs with
  | nil => rfl
  | cons a r ih => simp only [bytesOf, List.length_cons, ih]; omega
theorem bytesOf_append (a b : List Nat) : bytesOf (a ++ b) = bytesOf a ++ bytesOf b := by
  induction a with
  | nil => rfl
  | cons x r ih => simp [bytesOf, ih]
theorem bytesOf_zero (n : Nat) : bytesOf (List.replicate n 0) = List.replicate (2 * n) 0 := by
  induction n with
  | zero => rfl
  | succ n ih => rw [List.replicate_succ, bytesOf, ih, show 2 * (n + 1) = 2 * n + 1 + 1 by omega, List.replicate_succ, List.replicate_succ]; rfl
def Gs (gs : List Nat) : Prop := ∀ g ∈ gs, g < 65536
theorem stops58 (t : List UInt8) : Stops (58 :: t) := by intro c r h; injection h with h _; subst h; rfl
theorem stops46 (t : List UInt8) : Stops (46 :: t) := by intro c r h; injection h with h _; subst h; rfl
theorem stops_nil : Stops [] := by intro c r h; cases h
theorem hexT_head (x : Nat) (h : x < 65536) (t : List UInt8) : ∃ c r, hexT x ++ t = c :: r ∧ ∃ d, hexv c = some d := by
  have hd : ∀ d, d < 16 → ∃ e, hexv (hdig d) = some e := fun d hd => ⟨d, hexv_hdig hd⟩
  unfold hexT
  by_cases h1 : 4096 ≤ x
  · rw [if_pos h1]; exact ⟨_, _, rfl, hd _ (by omega)⟩
  · rw [if_neg h1]
    by_cases h2 : 256 ≤ x
    · rw [if_pos h2]; exact ⟨_, _, rfl, hd _ (by omega)⟩
    · rw [if_neg h2]
      by_cases h3 : 16 ≤ x
      · rw [if_pos h3]; exact ⟨_, _, rfl, hd _ (by omega)⟩
      · rw [if_neg h3]; exact ⟨_, _, rfl, hd _ (by omega)⟩
theorem hexv_ne58 {c : UInt8} {d : Nat} (h : hexv c = some d) : c ≠ 58 := by rintro rfl; cases h
theorem hexv_ne46 {c : UInt8} {d : Nat} (h : hexv c = some d) : c ≠ 46 := by rintro rfl; cases h
theorem hexv_ne37 {c : UInt8} {d : Nat} (h : hexv c = some d) : c ≠ 37 := by rintro rfl; cases h
/-- A group that ends the text. -/
theorem step_last {g : Nat} (h : g < 65536) (ell : Option Nat) (out : List UInt8) : step (hexT g) ell out = .done ell (out ++ [hi8 g, lo8 g]) := by
  have := grp_hex h stops_nil
  rw [List.append_nil] at this
  unfold step
  rw [this]
  simp only [List.drop_length]
  rw [if_neg (by have := hexT_len (x := g); omega)]
/-- A group with a colon and a further group behind it. -/
theorem step_more {g : Nat} (h : g < 65536) (ell : Option Nat) (out : List UInt8) {c : UInt8} {r : List UInt8} (hc : c ≠ 58) : step (hexT g ++ 58 :: c :: r) ell out = .more (c :: r) ell (out ++ [hi8 g, lo8 g]) := by
  have := grp_hex h (stops58 (c :: r))
  unfold step
  rw [this]
  simp only [List.drop_left]
  rw [if_neg (by have := hexT_len (x := g); omega), if_neg (by decide), if_neg (by simp)]
  simp only [hc, if_false]
/-- A group with the ellipsis behind it. -/
theorem step_ell {g : Nat} (h : g < 65536) (out : List UInt8) (r : List UInt8) : step (hexT g ++ 58 :: 58 :: r) none out = if r = [] then .done (some (out.length + 2)) (out ++ [hi8 g, lo8 g]) else .more r (some (out.length + 2)) (out ++ [hi8 g, lo8 g]) := by
  have := grp_hex h (stops58 (58 :: r))
  unfold step
  rw [this]
  simp only [List.drop_left]
  rw [if_neg (by have := hexT_len (x := g); omega), if_neg (by decide), if_neg (by simp)]
  simp
theorem joinT_head {gs : List Nat} (hne : gs ≠ []) (hg : Gs gs) (t : List UInt8) : ∃ c r, joinT gs ++ t = c :: r ∧ ∃ d, hexv c = some d := by
  cases gs with
  | nil => exact absurd rfl hne
  | cons g r =>
    by_cases hr : r = []
    · subst hr; exact hexT_head g (hg g (by simp)) t
    · rw [joinT_cons g hr, List.append_assoc]; exact hexT_head g (hg g (by simp)) _
theorem loop_join {gs : List Nat} (hg : Gs gs) : ∀ (n : Nat) (ell : Option Nat) (out : List UInt8), gs ≠ [] → gs.length ≤ n → loop6 n (joinT gs) ell out = some (ell, out ++ bytesOf gs) := by
  induction gs with
  | nil => intro n ell out h; exact absurd rfl h
  | cons g r ih =>
    intro n ell out _ hn
    obtain ⟨n, rfl⟩ : ∃ m, n = m + 1 := ⟨n - 1, by simp at hn; omega⟩
    have hg0 : g < 65536 := hg g (by simp)
    unfold loop6
    by_cases hr : r = []
    · subst hr
      rw [show joinT [g] = hexT g from rfl, step_last hg0]
      rfl
    · rw [joinT_cons g hr]
      have hgr : Gs r := fun x hx => hg x (by simp [hx])
      obtain ⟨c, t, e, d, hd⟩ := joinT_head hr hgr []
      rw [List.append_nil] at e
      have := ih hgr n ell (out ++ [hi8 g, lo8 g]) hr (by simp at hn; omega)
      rw [e] at this ⊢
      rw [step_more hg0 ell out (hexv_ne58 hd)]
      show loop6 n (c :: t) ell _ = _
      rw [this]
      simp [bytesOf]
theorem loop_ell {b : List Nat} (hb : Gs b) {a : List Nat} (ha : Gs a) : ∀ (n : Nat) (out : List UInt8), a ≠ [] → a.length + b.length ≤ n → loop6 n (joinT a ++ 58 :: 58 :: joinT b) none out = some (some (out.length + 2 * a.length), out ++ (bytesOf a ++ bytesOf b)) := by
  induction a with
  | nil => intro n out h; exact absurd rfl h
  | cons g r ih =>
    intro n out _ hn
    obtain ⟨n, rfl⟩ : ∃ m, n = m + 1 := ⟨n - 1, by simp at hn; omega⟩
    have hg0 : g < 65536 := ha g (by simp)
    unfold loop6
    by_cases hr : r = []
    · subst hr
      rw [show joinT [g] = hexT g from rfl, step_ell hg0]
      by_cases hbn : b = []
      · subst hbn
        simp [joinT, bytesOf]
      · obtain ⟨c, t, e, d, hd⟩ := joinT_head hbn hb []
        rw [List.append_nil] at e
        rw [if_neg (by rw [e]; simp)]
        show loop6 n (joinT b) _ _ = _
        rw [loop_join hb n _ _ hbn (by simp at hn; omega)]
        simp [bytesOf]
    · rw [joinT_cons g hr]
      have hgr : Gs r := fun x hx => ha x (by simp [hx])
      obtain ⟨c, t, e, d, hd⟩ := joinT_head hr hgr (58 :: 58 :: joinT b)
      have := ih hgr n (out ++ [hi8 g, lo8 g]) hr (by simp at hn; omega)
      rw [List.append_assoc, List.cons_append]
      rw [e] at this ⊢
      rw [step_more hg0 none out (hexv_ne58 hd)]
      show loop6 n (c :: t) none _ = _
      rw [this]
      simp [bytesOf]
      omega
/-- The text of an IPv6 address: its groups, with or without a run of zero groups left out. -/
def v6T (gs : List Nat) (run : Option (Nat × Nat)) : List UInt8 :=
  match run with
  | none => joinT gs
  | some (a, b) => joinT (gs.take a) ++ 58 :: 58 :: joinT (gs.drop b)
def RunOk (gs : List Nat) : Option (Nat × Nat) → Prop
  | none => True
  | some (a, b) => a < b ∧ b ≤ 8 ∧ gs = gs.take a ++ (List.replicate (b - a) 0 ++ gs.drop b)
theorem p6_v6 {gs : List Nat} (hl : gs.length = 8) (hg : Gs gs) (run : Option (Nat × Nat)) (hr : RunOk gs run) : p6 (v6T gs run) = some (bytesOf gs) := by
  cases run with
  | none =>
    have hne : gs ≠ [] := by intro h; subst h; simp at hl
    obtain ⟨c, t, e, d, hd⟩ := joinT_head hne hg []
    rw [List.append_nil] at e
    unfold v6T p6
    have h8 := loop_join hg 8 none [] hne (by omega)
    rw [show (match (none : Option (Nat × Nat)) with | none => joinT gs | some (a, b) => joinT (gs.take a) ++ 58 :: 58 :: joinT (gs.drop b)) = joinT gs from rfl]
    rw [e] at h8 ⊢
    split
    · rename_i heq
      injection heq with h1 h2
      exact absurd h1 (hexv_ne58 hd)
    · rw [h8]
      simp [fin6, bytesOf_len, hl]
  | some ab =>
    obtain ⟨a, b⟩ := ab
    obtain ⟨hab, hb8, hgs⟩ := hr
    have hta : Gs (gs.take a) := fun x hx => hg x (List.mem_of_mem_take hx)
    have hdb : Gs (gs.drop b) := fun x hx => hg x (List.mem_of_mem_drop hx)
    have hla : (gs.take a).length = a := by rw [List.length_take]; omega
    have hlb : (gs.drop b).length = 8 - b := by rw [List.length_drop]; omega
    have hfin : fin6 (some (some (2 * a), bytesOf (gs.take a) ++ bytesOf (gs.drop b))) = some (bytesOf gs) := by
      have hlt : (bytesOf (gs.take a) ++ bytesOf (gs.drop b)).length < 16 := by rw [List.length_append, bytesOf_len, bytesOf_len]; omega
      unfold fin6
      simp only [hlt, if_true]
      congr 1
      have h2a : (bytesOf (gs.take a)).length = 2 * a := by rw [bytesOf_len, hla]
      rw [List.take_left' h2a, List.drop_left' h2a, List.length_append, bytesOf_len, bytesOf_len, hla, hlb, show 16 - (2 * a + 2 * (8 - b)) = 2 * (b - a) by omega, ← bytesOf_zero]
      conv => rhs; rw [hgs]
      rw [bytesOf_append, bytesOf_append]
    unfold v6T p6
    simp only
    by_cases ha : a = 0
    · subst ha
      rw [show joinT (gs.take 0) ++ 58 :: 58 :: joinT (gs.drop b) = 58 :: 58 :: joinT (gs.drop b) by simp [joinT]]
      simp only
      by_cases hbn : gs.drop b = []
      · rw [hbn]
        rw [hbn] at hgs
        have : gs = List.replicate 8 0 := by
          rw [List.take_zero, List.nil_append, List.append_nil] at hgs
          have : b = 8 := by have := congrArg List.length hbn; simp at this; omega
          subst this
          exact hgs
        rw [this, bytesOf_zero]
        simp [joinT]
      · obtain ⟨c, t, e, d, hd⟩ := joinT_head hbn hdb []
        rw [List.append_nil] at e
        rw [if_neg (by rw [e]; simp), loop_join hdb 8 _ _ hbn (by omega)]
        simp only [List.take_zero, bytesOf, List.nil_append] at hfin
        exact hfin
    · have hne : gs.take a ≠ [] := by intro h; rw [h] at hla; simp at hla; omega
      obtain ⟨c, t, e, d, hd⟩ := joinT_head hne hta (58 :: 58 :: joinT (gs.drop b))
      have h8 := loop_ell hdb hta 8 [] hne (by omega)
      rw [e] at h8 ⊢
      split
      · rename_i heq
        injection heq with h1 h2
        exact absurd h1 (hexv_ne58 hd)
      · rw [h8, hla, List.length_nil, Nat.zero_add, List.nil_append]
        exact hfin
/-- "::ffff:" -/
def pre6 : List UInt8 := [58, 58, 102, 102, 102, 102, 58]
theorem decT_head {x : Nat} (h : x < 256) (t : List UInt8) : ∃ c r, decT x ++ t = c :: r ∧ isDig c = true ∧ ∃ d, hexv c = some d := by
  have hd : ∀ d, d < 10 → isDig (dig d) = true ∧ ∃ e, hexv (dig d) = some e := fun d hd => ⟨dig_isDig hd, d, hexv_dig hd⟩
  unfold decT
  by_cases h1 : 100 ≤ x
  · rw [if_pos h1]; exact ⟨_, _, rfl, hd _ (by omega)⟩
  · rw [if_neg h1]
    by_cases h2 : 10 ≤ x
    · rw [if_pos h2]; exact ⟨_, _, rfl, hd _ (by omega)⟩
    · rw [if_neg h2]; exact ⟨_, _, rfl, hd _ (by omega)⟩
theorem p6_4in6 (b0 b1 b2 b3 : UInt8) : p6 (pre6 ++ v4T b0 b1 b2 b3) = some (List.replicate 10 0 ++ [255, 255, b0, b1, b2, b3]) := by
  unfold p6 pre6
  simp only [List.cons_append, List.nil_append]
  rw [if_neg (by simp)]
  have e : (102 : UInt8) :: 102 :: 102 :: 102 :: 58 :: v4T b0 b1 b2 b3 = hexT 65535 ++ 58 :: v4T b0 b1 b2 b3 := rfl
  rw [e]
  obtain ⟨c, t, hc, _, d, hd⟩ := decT_head (x := b0.toNat) (UInt8.toNat_lt b0) (46 :: (decT b1.toNat ++ 46 :: (decT b2.toNat ++ 46 :: decT b3.toNat)))
  have hv : v4T b0 b1 b2 b3 = c :: t := hc
  have hs : step (v4T b0 b1 b2 b3) (some 0) [hi8 65535, lo8 65535] = .done (some 0) [255, 255, b0, b1, b2, b3] := by
    obtain ⟨acc, hg⟩ := grp_dec (x := b0.toNat) (UInt8.toNat_lt b0) (stops46 (decT b1.toNat ++ 46 :: (decT b2.toNat ++ 46 :: decT b3.toNat)))
    unfold step
    have hp := p4_v4 b0 b1 b2 b3
    have hd : (v4T b0 b1 b2 b3).drop (decT b0.toNat).length = 46 :: (decT b1.toNat ++ 46 :: (decT b2.toNat ++ 46 :: decT b3.toNat)) := by unfold v4T; rw [List.drop_left]
    have hg' : grp (v4T b0 b1 b2 b3) 0 0 = some (acc, (decT b0.toNat).length) := hg
    rw [hg']
    simp only [hd]
    rw [if_neg (by have := decT_len b0.toNat; omega), if_pos (by trivial), if_neg (by simp), if_neg (by simp), hp]
    rfl
  unfold loop6
  rw [hv, step_more (by omega) _ _ (hexv_ne58 hd), ← hv]
  simp only [List.nil_append]
  unfold loop6
  rw [hs]
  rfl
theorem find_skip {a : List UInt8} (h : ∀ c ∈ a, special c = false) (t : List UInt8) : (a ++ t).find? special = t.find? special := by
  induction a with
  | nil => rfl
  | cons x r ih => rw [List.cons_append, List.find?_cons, h x (by simp), ih (fun c hc => h c (by simp [hc]))]
theorem hexv_special {c : UInt8} {d : Nat} (h : hexv c = some d) : special c = false := by
  have h1 := hexv_ne58 h; have h2 := hexv_ne46 h; have h3 := hexv_ne37 h
  simp [special, h1, h2, h3]
theorem decT_mem {x : Nat} (h : x < 256) : ∀ c ∈ decT x, ∃ d, d < 10 ∧ c = dig d := by
  intro c hc
  unfold decT at hc
  simp only [List.mem_append, List.mem_ite_nil_right, List.mem_singleton] at hc
  rcases hc with ⟨_, rfl⟩ | ⟨_, rfl⟩ | rfl
  · exact ⟨_, by omega, rfl⟩
  · exact ⟨_, by omega, rfl⟩
  · exact ⟨_, by omega, rfl⟩
theorem hexT_mem {x : Nat} (h : x < 65536) : ∀ c ∈ hexT x, ∃ d, d < 16 ∧ c = hdig d := by
  intro c hc
  unfold hexT at hc
  simp only [List.mem_append, List.mem_ite_nil_right, List.mem_singleton] at hc
  rcases hc with ⟨_, rfl⟩ | ⟨_, rfl⟩ | ⟨_, rfl⟩ | rfl
  · exact ⟨_, by omega, rfl⟩
  · exact ⟨_, by omega, rfl⟩
  · exact ⟨_, by omega, rfl⟩
  · exact ⟨_, by omega, rfl⟩
theorem pA_v4 (b0 b1 b2 b3 : UInt8) : pA (v4T b0 b1 b2 b3) = some [b0, b1, b2, b3] := by
  unfold pA
  have : (v4T b0 b1 b2 b3).find? special = some 46 := by
    unfold v4T
    rw [find_skip (fun c hc => by obtain ⟨d, hd, rfl⟩ := decT_mem (UInt8.toNat_lt b0) c hc; exact hexv_special (hexv_dig hd))]
    rfl
  rw [this]
  simp only [if_true]
  exact p4_v4 b0 b1 b2 b3
theorem pA_4in6 (b0 b1 b2 b3 : UInt8) : pA (pre6 ++ v4T b0 b1 b2 b3) = some (List.replicate 10 0 ++ [255, 255, b0, b1, b2, b3]) := by
  unfold pA
  have : (pre6 ++ v4T b0 b1 b2 b3).find? special = some 58 := rfl
  rw [this]
  exact p6_4in6 b0 b1 b2 b3
theorem pA_v6 {gs : List Nat} (hl : gs.length = 8) (hg : Gs gs) (run : Option (Nat × Nat)) (hr : RunOk gs run) : pA (v6T gs run) = some (bytesOf gs) := by
  have h6 := p6_v6 hl hg run hr
  have : (v6T gs run).find? special = some 58 := by
    have hskip : ∀ x, x < 65536 → ∀ t, (hexT x ++ 58 :: t).find? special = some 58 := fun x hx t => by
      rw [find_skip (fun c hc => by obtain ⟨d, hd, rfl⟩ := hexT_mem hx c hc; exact hexv_special (hexv_hdig hd))]
      rfl
    cases run with
    | none =>
      match gs, hl with
      | g :: r, hl => 
        have hrn : r ≠ [] := by intro h; subst h; simp at hl
        show (joinT (g :: r)).find? special = _
        rw [joinT_cons g hrn]
        exact hskip g (hg g (by simp)) _
    | some ab =>
      obtain ⟨a, b⟩ := ab
      show (joinT (gs.take a) ++ 58 :: 58 :: joinT (gs.drop b)).find? special = _
      cases h : gs.take a with
      | nil => rfl
      | cons g r =>
        have hg0 : g < 65536 := hg g (List.mem_of_mem_take (by rw [h]; simp))
        by_cases hr : r = []
        · subst hr; exact hskip g hg0 _
        · rw [joinT_cons g hr, List.append_assoc, List.cons_append]; exact hskip g hg0 _
  unfold pA
  rw [this]
  simp only [show ¬ ((58 : UInt8) = 46) by decide, if_false, if_true]
  exact h6
end Go.Proofs.YtaofindlomkbbaaDoor.Tx
