import Derived.Test.Qxb6626462aRows
import Derived.WalkKit
import Derived.WalkSpells
import Derived.WalkLawsBesides
namespace Go.Proofs.Qxb6626462a
open Go.RowKit

/-- Element i (of n) of the slice at a lies in a block below B and holds F i. -/
def At (w : World) (B : Nat) (a : Option Addr) (n : Nat) (F : Nat → Value) : Prop :=
  n = 0 ∨ ∃ b o, a = some ⟨b, o, none⟩ ∧ b < B ∧ ∀ i, i < n → w.cell? ⟨b, o + i, none⟩ = some (F i)

theorem At.pos {w : World} {B : Nat} {a : Option Addr} {n : Nat} {F : Nat → Value} (h : At w B a n F) {k : Nat} (hk : k < n) :
    ∃ b o, a = some ⟨b, o, none⟩ ∧ b < B ∧ ∀ i, i < n → w.cell? ⟨b, o + i, none⟩ = some (F i) := by
  rcases h with h | h
  · omega
  · exact h

end Go.Proofs.Qxb6626462a
