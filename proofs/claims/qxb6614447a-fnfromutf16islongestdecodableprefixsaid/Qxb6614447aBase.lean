/-
  What the walks share: a slice of bytes in memory ('Byt').
-/
import Derived.Test.Qxb6614447aRows
import Derived.Test.Qxb6614447aMath
import Derived.WalkKit
import Derived.ProofKit
import Derived.Below
import Derived.WalkSpells
import Derived.WalkLawsBesides
import Derived.BigQuiet
import Derived.Deep.QuietTactic
import Derived.Deep.RegionWith
import Derived.Deep.DeepCutAuto
import Derived.Laws.CopyOwn
import Derived.Lib.EndianBits
namespace Go.Proofs.Qxb6614447a
open Go.RowKit

theorem hid {p : Prop} (h : p) : Hid p := h

/-- The first n bytes f 0, f 1, .. lie at the address ao (if there is one of them), in a block below B. -/
def Byt (B : Nat) (w : World) (ao : Option Addr) (n : Nat) (f : Nat → Int) : Prop :=
  ∀ k, k < n → ∃ g off, ao = some ⟨g, off, none⟩ ∧ g < B ∧ w.cell? ⟨g, off + k, none⟩ = some (.int .u8 (f k)) ∧ 0 ≤ f k ∧ f k ≤ 255

theorem Byt.below {B : Nat} {w w' : World} {ao : Option Addr} {n : Nat} {f : Nat → Int} (h : Byt B w ao n f) (hb : Below B w w') : Byt B w' ao n f := by
  intro k hk
  obtain ⟨g, off, h1, h2, h3, h4⟩ := h k hk
  exact ⟨g, off, h1, h2, by rw [hb.cell (p := ⟨g, off + k, none⟩) h2]; exact h3, h4⟩

theorem Byt.mono {B B' : Nat} {w : World} {ao : Option Addr} {n : Nat} {f : Nat → Int} (h : Byt B w ao n f) (hB : B ≤ B') : Byt B' w ao n f := by
  intro k hk
  obtain ⟨g, off, h1, h2, h3, h4⟩ := h k hk
  exact ⟨g, off, h1, Nat.lt_of_lt_of_le h2 hB, h3, h4⟩

theorem Byt.drewN {B : Nat} {w : World} {ao : Option Addr} {n : Nat} {f : Nat → Int} (h : Byt B w ao n f) (q : Nat) : Byt B (w.drewN q) ao n f := h

/-- Two bytes that lie one behind the other. -/
theorem Byt.two {B : Nat} {w : World} {ao : Option Addr} {n : Nat} {f : Nat → Int} (h : Byt B w ao n f) {k : Nat} (hk : k + 1 < n) :
    ∃ g off, ao = some ⟨g, off, none⟩ ∧ g < B ∧ w.cell? ⟨g, off + k, none⟩ = some (.int .u8 (f k)) ∧ w.cell? ⟨g, off + (k + 1), none⟩ = some (.int .u8 (f (k + 1))) ∧ 0 ≤ f k ∧ f k ≤ 255 ∧ 0 ≤ f (k + 1) ∧ f (k + 1) ≤ 255 := by
  obtain ⟨g, off, h1, h2, h3, h4, h5⟩ := h k (by omega)
  obtain ⟨g', off', h1', h2', h3', h4', h5'⟩ := h (k + 1) hk
  rw [h1] at h1'
  cases h1'
  exact ⟨g, off, h1, h2, h3, h3', h4, h5, h4', h5'⟩

theorem info5 : (Try.prog.info? 5).map (fun i => (i.zero, i.size, i.bytes)) = some (some (.int .u8 0), 1, 1) := by kernel_rfl
theorem size5 : (Try.prog.info? 5).map (·.size) = some 1 := by kernel_rfl

theorem block_of_full {w : World} {base g n : Nat} {e : TypeId} {xs : List Value} (h : w.ownsRow base e 1 (.slice (some ⟨g, 0, none⟩) n n) n xs) : w.heap[g]? = some (.cells xs.toArray e (0, 0)) := by
  rcases h.2 with ⟨h', _⟩ | ⟨g', cap', cur, h', _, hg, _, _, hcs, ht⟩
  · cases h'
  · simp only [Value.slice.injEq, Option.some.injEq, Addr.mk.injEq, and_true, true_and] at h'
    obtain ⟨rfl, rfl⟩ := h'
    rw [hg, ← ht, List.take_of_length_le (by simpa using Nat.le_of_eq hcs)]

theorem below_make {w w1 : World} (hg : w.grownBy w1 none) : Below w.heap.size w w1 := (Below.refl _ _).grown hg (Nat.le_refl _) (fun j hj => by cases hj)

end Go.Proofs.Qxb6614447a
