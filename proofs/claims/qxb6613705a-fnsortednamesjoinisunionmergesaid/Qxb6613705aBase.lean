/-
  What the walks share: a slice of texts that lies in memory ('Rd'), the order of texts as the model has it.
-/
import Derived.Test.Qxb6613705aRows
import Derived.Test.Qxb6613705aMath
import Derived.WalkKit
import Derived.ProofKit
import Derived.Below
import Derived.WalkSpells
import Derived.WalkLawsBesides
import Derived.BigQuiet
import Derived.Deep.QuietTactic
import Derived.Sort.EncStr
namespace Go.Proofs.Qxb6613705a
open Go.RowKit

/-- The texts ss lie at the address ao (if there is one of them), in a block below B. -/
def Rd (B : Nat) (w : World) (ao : Option Addr) (ss : List Txt) : Prop :=
  ∀ i x, ss[i]? = some x → ∃ g off, ao = some ⟨g, off, none⟩ ∧ g < B ∧ w.cell? ⟨g, off + i, none⟩ = some (.string ⟨x.toArray⟩)

theorem Rd.below {B : Nat} {w w' : World} {ao : Option Addr} {ss : List Txt} (h : Rd B w ao ss) (hb : Below B w w') : Rd B w' ao ss := by
  intro i x hx
  obtain ⟨g, off, h1, h2, h3⟩ := h i x hx
  exact ⟨g, off, h1, h2, by rw [hb.cell (p := ⟨g, off + i, none⟩) h2]; exact h3⟩

theorem Rd.mono {B B' : Nat} {w : World} {ao : Option Addr} {ss : List Txt} (h : Rd B w ao ss) (hB : B ≤ B') : Rd B' w ao ss := by
  intro i x hx
  obtain ⟨g, off, h1, h2, h3⟩ := h i x hx
  exact ⟨g, off, h1, Nat.lt_of_lt_of_le h2 hB, h3⟩

theorem Rd.drewN {B : Nat} {w : World} {ao : Option Addr} {ss : List Txt} (h : Rd B w ao ss) (q : Nat) : Rd B (w.drewN q) ao ss := h

theorem toList_txt (x : Txt) : (⟨x.toArray⟩ : ByteArray).toList = x := by
  rw [ByteArray.toList_eq]

theorem less_txt : ∀ (x y : Txt), Op.bytesLess x y = decide (x < y)
  | [], [] => by simp [Op.bytesLess]
  | _ :: _, [] => by simp [Op.bytesLess]
  | [], _ :: _ => by simp [Op.bytesLess]
  | a :: x, b :: y => by
    rw [Op.bytesLess, less_txt x y]
    simp only [List.cons_lt_cons_iff]
    by_cases h1 : a < b <;> by_cases h2 : a = b <;> by_cases h3 : x < y <;> simp [h1, h2, h3]
end Go.Proofs.Qxb6613705a
