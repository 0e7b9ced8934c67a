import Derived.Test.Qxb6627192aDefs
import Derived.Test.Qxb6627192aPlain
import Derived.Maps.OwnSet
namespace Go.Proofs.Qxb6627192a
open Go.RowKit Go.WideMaps Go.Maps

theorem law9 : Keyed Try.prog 9 := string_keyed Try.underlying9

theorem bool_inv {v : Value} {z : DataW Unit × List MemPlace} (h : plainElem Try.prog 4 v = some z) : ∃ x, v = .bool x ∧ z = (.lit (.bool x), []) := by
  unfold plainElem at h
  rw [Try.underlying4] at h
  cases v <;> simp at h
  exact ⟨_, rfl, h.symm⟩

/-- Block b is a map[string]bool of at most m entries, of which just the keys of S hold true. -/
def MapSet (w : World) (b m : Nat) (S : List (List UInt8)) : Prop :=
  ∃ D : DataW Unit, w.ownsMap Try.prog 9 (plainElem Try.prog 4) b m D ∧ ∀ l : List UInt8, D.atKey (.string l) (.lit (.bool false)) = .lit (.bool (decide (l ∈ S)))

theorem MapSet.made (w : World) : MapSet (w.alloc (.map #[] 0)) w.heap.size 0 [] :=
  ⟨.map [], World.ownsMap_made _ _ _ _, fun l => by simp [DataW.atKey]⟩

theorem MapSet.alloc {w : World} {b m : Nat} {S : List (List UInt8)} (h : MapSet w b m S) (o : Obj) : MapSet (w.alloc o) b m S := by
  obtain ⟨D, h1, h2⟩ := h
  exact ⟨D, h1.alloc o, h2⟩

theorem MapSet.kept {w w' : World} {b m : Nat} {S : List (List UInt8)} {row : Option Nat} (h : MapSet w b m S) (hg : w.grownBy w' row) (hne : some b ≠ row) : MapSet w' b m S := by
  obtain ⟨D, h1, h2⟩ := h
  exact ⟨D, h1.kept hg hne, h2⟩

theorem MapSet.mono {w : World} {b m m' : Nat} {S : List (List UInt8)} (h : MapSet w b m S) (hm : m ≤ m') : MapSet w b m' S := by
  obtain ⟨D, h1, h2⟩ := h
  exact ⟨D, h1.mono hm, h2⟩

theorem MapSet.look {w : World} {b m : Nat} {S : List (List UInt8)} (h : MapSet w b m S) (s : ByteArray) (hs : s.size ≤ maxLen) :
    (Instr.lookup 42 (.map (some b)) (.string s) false).run Try.prog w = .ok (.bool (decide (s.data.toList ∈ S))) w := by
  obtain ⟨D, h1, h2⟩ := h
  obtain ⟨v, ps, hrun, hv⟩ := h1.lookup law9 Try.underlying42 (Try.zeroValue4 w) (plainElem_bool Try.underlying4 false) (keyOf_string_mk Try.underlying9 hs)
  obtain ⟨x, rfl, hx⟩ := bool_inv hv
  rw [h2] at hx
  simp only [Prod.mk.injEq, DataW.lit.injEq, Lit.bool.injEq] at hx
  rw [hrun, hx.1]

theorem MapSet.put {D : DataW Unit} {w' : World} {b m : Nat} {S : List (List UInt8)} (s : List UInt8) (hD : IsMap D) (h2 : ∀ l : List UInt8, D.atKey (.string l) (.lit (.bool false)) = .lit (.bool (decide (l ∈ S))))
    (h : w'.ownsMap Try.prog 9 (plainElem Try.prog 4) b m (D.put (.string s) (.lit (.bool true)))) : MapSet w' b m (S ++ [s]) := by
  refine ⟨_, h, fun l => ?_⟩
  by_cases e : l = s
  · subst e
    rw [atKey_put_same hD (by simp [WideAt.IsKeyLit])]
    simp
  · rw [atKey_put_other (by intro h; exact e (by simpa using h)), h2]
    simp [e]

end Go.Proofs.Qxb6627192a
