/-
  Plain facts on lists of texts (a text: the list of its bytes): strictly ascending lists; the merge of two of them; no Go in sight.
-/
namespace Go.Proofs.Qxb6613705a
abbrev Txt := List UInt8

/-- Strictly ascending. -/
def Asc (l : List Txt) : Prop := l.Pairwise (fun a b => a < b)

theorem txt_irrefl (a : Txt) : ¬ a < a := List.lt_irrefl a
theorem txt_trans {a b c : Txt} (h : a < b) (k : b < c) : a < c := List.lt_trans h k
theorem txt_asymm {a b : Txt} (h : a < b) : ¬ b < a := fun k => txt_irrefl a (txt_trans h k)
theorem txt_eq {a b : Txt} (h : ¬ a < b) (k : ¬ b < a) : a = b :=
  List.le_antisymm (List.not_lt.1 k) (List.not_lt.1 h)

theorem Asc.nodup {l : List Txt} (h : Asc l) : l.Nodup := by
  refine List.Pairwise.imp ?_ h
  intro a b hab e
  subst e
  exact txt_irrefl _ hab

theorem Asc.lt {l : List Txt} (h : Asc l) {i j : Nat} {a b : Txt} (hi : l[i]? = some a) (hj : l[j]? = some b) (hij : i < j) : a < b := by
  obtain ⟨h1, rfl⟩ := List.getElem?_eq_some_iff.1 hi
  obtain ⟨h2, rfl⟩ := List.getElem?_eq_some_iff.1 hj
  exact List.pairwise_iff_getElem.1 h i j h1 h2 hij

theorem Asc.lt_iff {l : List Txt} (h : Asc l) {i j : Nat} {a b : Txt} (hi : l[i]? = some a) (hj : l[j]? = some b) : a < b ↔ i < j := by
  constructor
  · intro hab
    rcases Nat.lt_trichotomy i j with h1 | h1 | h1
    · exact h1
    · subst h1
      rw [hi] at hj
      cases hj
      exact absurd hab (txt_irrefl _)
    · exact absurd (h.lt hj hi h1) (txt_asymm hab)
  · exact fun hij => h.lt hi hj hij

/-- Two strictly ascending lists of one and the same set are one. -/
theorem Asc.unique {l l' : List Txt} (h : Asc l) (h' : Asc l') (hm : ∀ x, x ∈ l ↔ x ∈ l') : l = l' := by
  refine List.Perm.eq_of_pairwise (le := fun a b => a < b) (fun a b _ _ h1 h2 => absurd h2 (txt_asymm h1)) h h' ?_
  exact (List.perm_ext_iff_of_nodup h.nodup h'.nodup).2 hm

/-- A list without repeats, sorted, is strictly ascending. -/
theorem asc_mergeSort {l : List Txt} (hn : l.Nodup) : Asc (l.mergeSort fun x y => decide (x ≤ y)) := by
  have tr : ∀ a b c : Txt, decide (a ≤ b) = true → decide (b ≤ c) = true → decide (a ≤ c) = true := fun a b c h1 h2 => by
    simp only [decide_eq_true_eq] at *; exact List.le_trans h1 h2
  have to : ∀ a b : Txt, (decide (a ≤ b) || decide (b ≤ a)) = true := fun a b => by
    simp only [Bool.or_eq_true, decide_eq_true_eq]; exact List.le_total a b
  have h1 := List.pairwise_mergeSort tr to l
  have h2 : (l.mergeSort fun x y => decide (x ≤ y)).Nodup := (List.mergeSort_perm l _).nodup_iff.2 hn
  refine List.Pairwise.imp₂ ?_ h1 h2
  intro a b hab hne
  simp only [decide_eq_true_eq] at hab
  rcases Decidable.em (a < b) with h | h
  · exact h
  · exact absurd (List.le_antisymm hab (List.not_lt.1 h)) hne

theorem mem_sorted_iff {l : List Txt} (x : Txt) : x ∈ (l.mergeSort fun x y => decide (x ≤ y)) ↔ x ∈ l := (List.mergeSort_perm l _).mem_iff

/-- A list without repeats whose members lie in another is no longer than that. -/
theorem nodup_le : ∀ (s t : List Txt), s.Nodup → (∀ x ∈ s, x ∈ t) → s.length ≤ t.length
  | [], _, _, _ => Nat.zero_le _
  | a :: s, t, hn, hs => by
    have ha : a ∈ t := hs a (by simp)
    obtain ⟨h1, h2⟩ := List.nodup_cons.1 hn
    have := nodup_le s (t.erase a) h2 (fun x hx => by
      have hne : x ≠ a := fun e => h1 (e ▸ hx)
      exact (List.mem_erase_of_ne hne).2 (hs x (by simp [hx])))
    have hl := List.length_erase_of_mem ha
    have hp : 0 < t.length := List.length_pos_of_mem ha
    simp only [List.length_cons]
    omega

theorem mem_take_succ {l : List Txt} {i : Nat} {a : Txt} (hi : l[i]? = some a) (v : Txt) : v ∈ l.take (i + 1) ↔ v ∈ l.take i ∨ v = a := by
  rw [List.take_add_one, hi]
  simp

theorem drop_of_get {l : List Txt} {i : Nat} {a : Txt} (hi : l[i]? = some a) : l.drop i = a :: l.drop (i + 1) := by
  obtain ⟨h1, rfl⟩ := List.getElem?_eq_some_iff.1 hi
  exact List.drop_eq_getElem_cons h1

/-- HOW FAR THE MERGE HAS COME: the first i of x and the first j of y are in z, which is strictly ascending and below all that is still to come. -/
structure Merged (x y : List Txt) (i j : Nat) (z : List Txt) : Prop where
  asc : Asc z
  mem : ∀ v, v ∈ z ↔ v ∈ x.take i ∨ v ∈ y.take j
  lx : ∀ v ∈ z, ∀ u ∈ x.drop i, v < u
  ly : ∀ v ∈ z, ∀ u ∈ y.drop j, v < u
  len : z.length ≤ i + j

theorem Merged.start (x y : List Txt) : Merged x y 0 0 [] := ⟨List.Pairwise.nil, by simp, by simp, by simp, by simp⟩

theorem Asc.snoc {z : List Txt} (h : Asc z) {a : Txt} (ha : ∀ v ∈ z, v < a) : Asc (z ++ [a]) := by
  refine List.pairwise_append.2 ⟨h, by simp, ?_⟩
  intro v hv b hb
  simp at hb
  subst hb
  exact ha v hv

theorem Asc.drop_lt {l : List Txt} (h : Asc l) {i : Nat} {a : Txt} (hi : l[i]? = some a) : ∀ u ∈ l.drop (i + 1), a < u := by
  have h2 : (l.drop i).Pairwise (fun a b => a < b) := List.Pairwise.drop h
  rw [drop_of_get hi] at h2
  exact (List.pairwise_cons.1 h2).1

theorem mem_drop_succ {l : List Txt} {i : Nat} {a : Txt} (hi : l[i]? = some a) {u : Txt} (hu : u ∈ l.drop (i + 1)) : u ∈ l.drop i := by
  rw [drop_of_get hi]; simp [hu]

/-- The next of x goes in: it is below all that is left of y. -/
theorem Merged.left {x y z : List Txt} {i j : Nat} (h : Merged x y i j z) (hx : Asc x) {a : Txt} (hi : x[i]? = some a) (hb : ∀ u ∈ y.drop j, a < u) : Merged x y (i + 1) j (z ++ [a]) := by
  have ha : ∀ v ∈ z, v < a := fun v hv => h.lx v hv a (by rw [drop_of_get hi]; simp)
  refine ⟨h.asc.snoc ha, fun v => ?_, fun v hv u hu => ?_, fun v hv u hu => ?_, ?_⟩
  · rw [List.mem_append, h.mem v, mem_take_succ hi, List.mem_singleton]
    constructor
    · rintro ((p | p) | p)
      · exact .inl (.inl p)
      · exact .inr p
      · exact .inl (.inr p)
    · rintro ((p | p) | p)
      · exact .inl (.inl p)
      · exact .inr p
      · exact .inl (.inr p)
  · rcases List.mem_append.1 hv with hv | hv
    · exact h.lx v hv u (mem_drop_succ hi hu)
    · simp at hv; subst hv; exact hx.drop_lt hi u hu
  · rcases List.mem_append.1 hv with hv | hv
    · exact h.ly v hv u hu
    · simp at hv; subst hv; exact hb u hu
  · have := h.len; simp; omega

theorem Merged.swap {x y z : List Txt} {i j : Nat} (h : Merged x y i j z) : Merged y x j i z :=
  ⟨h.asc, fun v => by rw [h.mem v]; exact Or.comm, h.ly, h.lx, by have := h.len; omega⟩

/-- The next of y goes in. -/
theorem Merged.right {x y z : List Txt} {i j : Nat} (h : Merged x y i j z) (hy : Asc y) {b : Txt} (hj : y[j]? = some b) (hb : ∀ u ∈ x.drop i, b < u) : Merged x y i (j + 1) (z ++ [b]) :=
  (h.swap.left hy hj hb).swap

/-- The next of both, which are one, goes in. -/
theorem Merged.both {x y z : List Txt} {i j : Nat} (h : Merged x y i j z) (hx : Asc x) (hy : Asc y) {a : Txt} (hi : x[i]? = some a) (hj : y[j]? = some a) : Merged x y (i + 1) (j + 1) (z ++ [a]) := by
  have ha : ∀ v ∈ z, v < a := fun v hv => h.lx v hv a (by rw [drop_of_get hi]; simp)
  refine ⟨h.asc.snoc ha, fun v => ?_, fun v hv u hu => ?_, fun v hv u hu => ?_, ?_⟩
  · rw [List.mem_append, h.mem v, mem_take_succ hi, mem_take_succ hj, List.mem_singleton]
    constructor
    · rintro ((p | p) | p)
      · exact .inl (.inl p)
      · exact .inr (.inl p)
      · exact .inl (.inr p)
    · rintro ((p | p) | (p | p))
      · exact .inl (.inl p)
      · exact .inr p
      · exact .inl (.inr p)
      · exact .inr p
  · rcases List.mem_append.1 hv with hv | hv
    · exact h.lx v hv u (mem_drop_succ hi hu)
    · simp at hv; subst hv; exact hx.drop_lt hi u hu
  · rcases List.mem_append.1 hv with hv | hv
    · exact h.ly v hv u (mem_drop_succ hj hu)
    · simp at hv; subst hv; exact hy.drop_lt hj u hu
  · have := h.len; simp; omega

theorem Asc.all_drop_lt {l : List Txt} (h : Asc l) {j : Nat} {a b : Txt} (hj : l[j]? = some b) (hab : a < b) : ∀ u ∈ l.drop j, a < u := by
  intro u hu
  rw [drop_of_get hj] at hu
  rcases List.mem_cons.1 hu with rfl | hu
  · exact hab
  · exact txt_trans hab (h.drop_lt hj u hu)

/-- At the end. -/
theorem Merged.done {x y z : List Txt} {i j : Nat} (h : Merged x y i j z) (hi : x.length ≤ i) (hj : y.length ≤ j) : Asc z ∧ ∀ v, v ∈ z ↔ v ∈ x ∨ v ∈ y :=
  ⟨h.asc, fun v => by rw [h.mem v, List.take_of_length_le hi, List.take_of_length_le hj]⟩

theorem drop_nil_of {l : List Txt} {j : Nat} (hj : l.length ≤ j) {P : Txt → Prop} : ∀ u ∈ l.drop j, P u := by
  rw [List.drop_eq_nil_of_le hj]; simp

end Go.Proofs.Qxb6613705a
