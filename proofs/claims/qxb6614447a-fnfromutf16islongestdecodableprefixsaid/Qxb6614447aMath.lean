/-
  Plain facts on 16-bit units: the reading of a list of units as characters ('dec'), how far it comes, and what it means position by position. No Go in sight.
-/
namespace Go.Proofs.Qxb6614447a

/-- The unit that lies in bytes 2k, 2k + 1. -/
def unit (big : Bool) (f : Nat → Int) (k : Nat) : Int := if big then f (2 * k) * 256 + f (2 * k + 1) else f (2 * k) + f (2 * k + 1) * 256

def hiS (u : Int) : Bool := decide (55296 ≤ u ∧ u ≤ 56319)
def loS (u : Int) : Bool := decide (56320 ≤ u ∧ u ≤ 57343)
def surS (u : Int) : Bool := decide (55296 ≤ u ∧ u ≤ 57343)
def pairS (u v : Int) : Int := (u - 55296) * 1024 + (v - 56320) + 65536

/-- The units of the first n bytes. -/
def units (big : Bool) (f : Nat → Int) (n : Nat) : List Int := (List.range (n / 2)).map (unit big f)

/-- The characters that the units spell, up to the first fault; and whether there is none. odd: a byte is left over. -/
def dec : List Int → Bool → List Int × Bool
  | [], odd => ([], !odd)
  | [c], odd => if surS c then ([], false) else ([c], !odd)
  | c :: d :: rest, odd =>
    if surS c then
      if hiS c && loS d then (pairS c d :: (dec rest odd).1, (dec rest odd).2) else ([], false)
    else (c :: (dec (d :: rest) odd).1, (dec (d :: rest) odd).2)

theorem surS_iff (u : Int) : surS u = (hiS u || loS u) := by
  unfold surS hiS loS
  rw [Bool.eq_iff_iff]
  simp
  omega

theorem dec_nil (odd : Bool) : dec [] odd = ([], !odd) := rfl
/-- A character of one unit. -/
theorem dec_one {c : Int} (hc : surS c = false) (rest : List Int) (odd : Bool) : dec (c :: rest) odd = (c :: (dec rest odd).1, (dec rest odd).2) := by
  cases rest with
  | nil => simp [dec, hc]
  | cons d rest => simp [dec, hc]
/-- A character of two. -/
theorem dec_two {c d : Int} (hc : hiS c = true) (hd : loS d = true) (rest : List Int) (odd : Bool) : dec (c :: d :: rest) odd = (pairS c d :: (dec rest odd).1, (dec rest odd).2) := by
  have hs : surS c = true := by rw [surS_iff, hc]; rfl
  simp [dec, hc, hd, hs]
theorem dec_lone {c : Int} (hc : surS c = true) (odd : Bool) : dec [c] odd = ([], false) := by simp [dec, hc]
theorem dec_bad {c d : Int} (hc : surS c = true) (h : (hiS c && loS d) = false) (rest : List Int) (odd : Bool) : dec (c :: d :: rest) odd = ([], false) := by
  simp [dec, hc, h]

/-- What a fault looks like from where the reading stopped. -/
def Stuck (us : List Int) (odd : Bool) : Prop :=
  (us = [] ∧ odd = true) ∨ (∃ c, us = [c] ∧ surS c = true) ∨ ∃ c d rest, us = c :: d :: rest ∧ surS c = true ∧ (hiS c && loS d) = false

/-- The units of one character. -/
def encS (r : Int) : List Int := if r < 65536 then [r] else [55296 + (r - 65536) / 1024, 56320 + (r - 65536) % 1024]

/-- A character that UTF-16 can spell. -/
def charS (r : Int) : Prop := 0 ≤ r ∧ r ≤ 1114111 ∧ surS r = false

theorem hi_iff (u : Int) : hiS u = true ↔ 55296 ≤ u ∧ u ≤ 56319 := by simp [hiS]
theorem lo_iff (u : Int) : loS u = true ↔ 56320 ≤ u ∧ u ≤ 57343 := by simp [loS]
theorem sur_iff (u : Int) : surS u = true ↔ 55296 ≤ u ∧ u ≤ 57343 := by simp [surS]
theorem sur_false_iff (u : Int) : surS u = false ↔ u < 55296 ∨ 57343 < u := by simp [surS]; omega

theorem pair_range {c d : Int} (hc : hiS c = true) (hd : loS d = true) : 65536 ≤ pairS c d ∧ pairS c d ≤ 1114111 := by
  have h1 := (hi_iff c).1 hc
  have h2 := (lo_iff d).1 hd
  unfold pairS
  omega

theorem enc_pair {c d : Int} (hc : hiS c = true) (hd : loS d = true) : encS (pairS c d) = [c, d] := by
  have h1 := (hi_iff c).1 hc
  have h2 := (lo_iff d).1 hd
  have h3 := pair_range hc hd
  unfold encS
  rw [if_neg (by omega)]
  unfold pairS
  have e1 : (c - 55296) * 1024 + (d - 56320) + 65536 - 65536 = (c - 55296) * 1024 + (d - 56320) := by omega
  rw [e1]
  have e2 : ((c - 55296) * 1024 + (d - 56320)) / 1024 = c - 55296 := by omega
  have e3 : ((c - 55296) * 1024 + (d - 56320)) % 1024 = d - 56320 := by omega
  rw [e2, e3]
  simp
  omega

theorem char_pair {c d : Int} (hc : hiS c = true) (hd : loS d = true) : charS (pairS c d) := by
  have h := pair_range hc hd
  exact ⟨by omega, h.2, (sur_false_iff _).2 (by omega)⟩

theorem char_one {c : Int} (h0 : 0 ≤ c) (h1 : c ≤ 65535) (hc : surS c = false) : charS c := ⟨h0, by omega, hc⟩
theorem enc_one {c : Int} (h1 : c ≤ 65535) : encS c = [c] := by unfold encS; rw [if_pos (by omega)]

/-- HOW FAR THE READING COMES. -/
theorem dec_spec : ∀ (us : List Int) (odd : Bool), (∀ u ∈ us, 0 ≤ u ∧ u ≤ 65535) →
    ∃ k, k ≤ us.length ∧ (dec us odd).1.flatMap encS = us.take k ∧ (∀ r ∈ (dec us odd).1, charS r) ∧ ((dec us odd).2 = true → k = us.length ∧ odd = false) ∧ ((dec us odd).2 = false → Stuck (us.drop k) odd)
  | [], odd, _ => ⟨0, by simp, by simp [dec], by simp [dec], by cases odd <;> simp [dec], by cases odd <;> simp [dec, Stuck]⟩
  | [c], odd, h => by
    cases hc : surS c
    · have hr := h c (by simp)
      refine ⟨1, by simp, ?_, ?_, ?_, ?_⟩
      · simp [dec, hc, enc_one hr.2]
      · intro r hr'
        simp [dec, hc] at hr'
        subst hr'
        exact char_one hr.1 hr.2 hc
      · cases odd <;> simp [dec, hc]
      · cases odd <;> simp [dec, hc, Stuck]
    · exact ⟨0, by simp, by simp [dec, hc], by simp [dec, hc], by simp [dec, hc], fun _ => .inr (.inl ⟨c, rfl, hc⟩)⟩
  | c :: d :: rest, odd, h => by
    cases hc : surS c
    · obtain ⟨k, h1, h2, h3, h4, h5⟩ := dec_spec (d :: rest) odd (fun u hu => h u (List.mem_cons_of_mem _ hu))
      have hr := h c (by simp)
      rw [dec_one hc]
      refine ⟨k + 1, by simpa using h1, ?_, ?_, ?_, ?_⟩
      · simp [enc_one hr.2, h2]
      · intro r hr'
        rcases List.mem_cons.1 hr' with rfl | hr'
        · exact char_one hr.1 hr.2 hc
        · exact h3 r hr'
      · intro e
        have := h4 e
        exact ⟨by simpa using this.1, this.2⟩
      · intro e
        simpa using h5 e
    · cases hp : (hiS c && loS d)
      · rw [dec_bad hc hp]
        exact ⟨0, by simp, by simp, by simp, by simp, fun _ => .inr (.inr ⟨c, d, rest, rfl, hc, hp⟩)⟩
      · obtain ⟨hh, hl⟩ := (Bool.and_eq_true _ _).mp hp
        obtain ⟨k, h1, h2, h3, h4, h5⟩ := dec_spec rest odd (fun u hu => h u (List.mem_cons_of_mem _ (List.mem_cons_of_mem _ hu)))
        rw [dec_two hh hl]
        refine ⟨k + 2, by simpa using h1, ?_, ?_, ?_, ?_⟩
        · simp [enc_pair hh hl, h2]
        · intro r hr'
          rcases List.mem_cons.1 hr' with rfl | hr'
          · exact char_pair hh hl
          · exact h3 r hr'
        · intro e
          have := h4 e
          exact ⟨by simpa using this.1, this.2⟩
        · intro e
          simpa using h5 e

/-- What zzWellPaired asks of place j: a high one is followed by a low one, a low one follows a high one. -/
def okAt (U : Nat → Int) (m j : Nat) : Prop :=
  (hiS (U j) = true → j + 1 < m ∧ loS (U (j + 1)) = true) ∧ (loS (U j) = true → j ≠ 0 ∧ hiS (U (j - 1)) = true)

theorem hi_lo {u : Int} (h : hiS u = true) : loS u = false := by
  have := (hi_iff u).1 h
  simp [loS]; omega
theorem lo_hi {u : Int} (h : loS u = true) : hiS u = false := by
  have := (lo_iff u).1 h
  simp [hiS]; omega

theorem drop_units (U : Nat → Int) (m k : Nat) (hk : k < m) : ((List.range m).map U).drop k = U k :: ((List.range m).map U).drop (k + 1) := by
  rw [List.drop_eq_getElem_cons (by simpa using hk)]
  simp

theorem drop_units_end (U : Nat → Int) (m k : Nat) (hk : m ≤ k) : ((List.range m).map U).drop k = [] := List.drop_eq_nil_of_le (by simpa using hk)

/-- THE READING HAS NO FAULT JUST WHERE EVERY PLACE IS WELL PAIRED. -/
theorem dec_paired (U : Nat → Int) (m : Nat) : ∀ (s k : Nat), m - k ≤ s → k ≤ m → (k = 0 ∨ hiS (U (k - 1)) = false) → ((dec (((List.range m).map U).drop k) false).2 = true ↔ ∀ j, k ≤ j → j < m → okAt U m j) := by
  intro s
  induction s with
  | zero =>
    intro k hs hk _
    have : k = m := by omega
    subst this
    rw [drop_units_end U k k (Nat.le_refl _)]
    simp [dec]
    intro j h1 h2
    omega
  | succ s ih =>
    intro k hs hk hb
    by_cases hkm : k = m
    · subst hkm
      rw [drop_units_end U k k (Nat.le_refl _)]
      simp [dec]
      intro j h1 h2
      omega
    have hlt : k < m := by omega
    rw [drop_units U m k hlt]
    cases hc : surS (U k)
    · rw [dec_one hc]
      have hnh : hiS (U k) = false := by rw [surS_iff] at hc; exact (Bool.or_eq_false_iff.1 hc).1
      have hnl : loS (U k) = false := by rw [surS_iff] at hc; exact (Bool.or_eq_false_iff.1 hc).2
      show (dec (((List.range m).map U).drop (k + 1)) false).2 = true ↔ _
      rw [ih (k + 1) (by omega) (by omega) (.inr (by simpa using hnh))]
      constructor
      · intro h j h1 h2
        by_cases e : j = k
        · subst e
          exact ⟨fun h => (by rw [hnh] at h; cases h), fun h => (by rw [hnl] at h; cases h)⟩
        · exact h j (by omega) h2
      · intro h j h1 h2
        exact h j (by omega) h2
    · by_cases hk1 : k + 1 < m
      · rw [drop_units U m (k + 1) hk1]
        cases hp : (hiS (U k) && loS (U (k + 1)))
        · rw [dec_bad hc hp]
          constructor
          · intro h; cases h
          · intro h
            have hok := h k (Nat.le_refl _) hlt
            cases hh : hiS (U k)
            · have hl : loS (U k) = true := by rw [surS_iff, hh] at hc; simpa using hc
              obtain ⟨h1, h2⟩ := hok.2 hl
              rcases hb with hb | hb
              · exact absurd hb h1
              · rw [hb] at h2; cases h2
            · have := (hok.1 hh).2
              rw [hh, this] at hp
              cases hp
        · obtain ⟨hh, hl⟩ := (Bool.and_eq_true _ _).mp hp
          rw [dec_two hh hl]
          show (dec (((List.range m).map U).drop (k + 1 + 1)) false).2 = true ↔ _
          rw [ih (k + 2) (by omega) (by omega) (.inr (by simpa using lo_hi hl))]
          constructor
          · intro h j h1 h2
            by_cases e : j = k
            · subst e
              exact ⟨fun _ => ⟨hk1, hl⟩, fun h' => (by rw [hi_lo hh] at h'; cases h')⟩
            · by_cases e1 : j = k + 1
              · subst e1
                exact ⟨fun h' => (by rw [lo_hi hl] at h'; cases h'), fun _ => ⟨by omega, by simpa using hh⟩⟩
              · exact h j (by omega) h2
          · intro h j h1 h2
            exact h j (by omega) h2
      · rw [drop_units_end U m (k + 1) (by omega), dec_lone hc]
        constructor
        · intro h; cases h
        · intro h
          have hok := h k (Nat.le_refl _) hlt
          cases hh : hiS (U k)
          · have hl : loS (U k) = true := by rw [surS_iff, hh] at hc; simpa using hc
            obtain ⟨h1, h2⟩ := hok.2 hl
            rcases hb with hb | hb
            · exact absurd hb h1
            · rw [hb] at h2; cases h2
          · exact absurd (hok.1 hh).1 hk1

/-- A byte is left over: there is a fault. -/
theorem dec_odd : ∀ (us : List Int), (dec us true).2 = false
  | [] => rfl
  | [c] => by cases hc : surS c <;> simp [dec, hc]
  | c :: d :: rest => by
    cases hc : surS c
    · rw [dec_one hc]; exact dec_odd (d :: rest)
    · cases hp : (hiS c && loS d)
      · rw [dec_bad hc hp]
      · obtain ⟨hh, hl⟩ := (Bool.and_eq_true _ _).mp hp
        rw [dec_two hh hl]; exact dec_odd rest

end Go.Proofs.Qxb6614447a
