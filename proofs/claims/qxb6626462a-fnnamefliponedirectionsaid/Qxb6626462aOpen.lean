import Derived.Test.Qxb6626462aLawS
import Derived.ProofKit
import Derived.ShutString
import Derived.ChangeOld
import Derived.Below
import Derived.Deep.Strs
import Derived.Deep.Grids
namespace Go.Proofs.Qxb6626462a
open Go.ChangeShapes Go.WideShapes Go.ChangeAt Go.RowKit Go.Deep

theorem own : ownKnob Try.prog.godebug = none := by kernel_rfl
theorem laidOut : laidOutB Try.prog = true := by kernel_rfl
theorem cells24 : Try.prog.cellsOf 24 = 1 := by kernel_rfl
theorem cells9 : Try.prog.cellsOf 9 = 1 := by kernel_rfl
theorem cells4 : Try.prog.cellsOf 4 = 1 := by kernel_rfl

theorem lt_of_cell {w : World} {a : Addr} {v : Value} (h : w.cell? a = some v) : a.block < w.heap.size := by
  unfold World.cell? at h
  rcases Nat.lt_or_ge a.block w.heap.size with h1 | h1
  · exact h1
  · have e : w.heap[a.block]? = none := Array.getElem?_eq_none h1
    rw [e] at h
    simp at h

theorem at_of {w : World} {a : Addr} {n : Nat} {F : Nat → Value} (h : ∀ i, i < n → w.cell? (a.add i) = some (F i)) : At w w.heap.size (some a) n F := by
  rcases Nat.eq_zero_or_pos n with h0 | h0
  · exact Or.inl h0
  · obtain ⟨b, o, spot⟩ := a
    have hc := h 0 h0
    have hs : spot = none := by simpa [Addr.add] using World.cell?_spot hc
    subst hs
    refine Or.inr ⟨b, o, rfl, by simpa [Addr.add] using lt_of_cell hc, fun i hi => ?_⟩
    have := h i hi
    rwa [add_plain] at this

/-- What is known of a slice of strings that is read. -/
def IsStrs (w : World) (a : Option Addr) (n c : Nat) (S : Nat → ByteArray) : Prop :=
  n ≤ 9223372036854775807 ∧ (a = none → n = 0 ∧ c = 0) ∧ At w w.heap.size a n (fun i => .string (S i)) ∧ ∀ i, i < n → (S i).size ≤ 9223372036854775807

section
variable {H : Type} {enc : TypeId × Value → H} {w : World} {base : Nat} {held : Bool}

theorem isStrs_of {fuel : Nat} {a : Option Addr} {n c : Nat} {x : DataW H × List MemPlace} (h : DataW.trod enc Try.prog w base (fun _ => true) held fuel 24 [.slice a n c] = some x) : ∃ S, IsStrs w a n c S := by
  rcases open_strs Try.underlying24 Try.underlying9 cells9 h with ⟨hcs, _⟩ | ⟨a', len, cap, m, S, hcs, _, hl, hm, hmm, _, hx⟩
  · simp only [List.cons.injEq, Value.slice.injEq, and_true] at hcs
    obtain ⟨rfl, rfl, rfl⟩ := hcs
    exact ⟨fun _ => ⟨#[]⟩, by omega, fun _ => ⟨rfl, rfl⟩, Or.inl rfl, fun i hi => absurd hi (Nat.not_lt_zero i)⟩
  · simp only [List.cons.injEq, Value.slice.injEq, and_true] at hcs
    obtain ⟨rfl, rfl, rfl⟩ := hcs
    simp only [if_true] at hmm
    subst hmm
    unfold maxLen at hm hx
    exact ⟨S, by omega, (fun h => by cases h), at_of (fun i hi => (hx i (by omega)).1), fun i hi => (hx i (by omega)).2⟩

theorem isBools_of {fuel : Nat} {a : Option Addr} {n c : Nat} {x : DataW H × List MemPlace} (h : DataW.trod enc Try.prog w base (fun _ => true) held fuel 23 [.slice a n c] = some x) :
    ∃ D : Nat → Bool, n ≤ 9223372036854775807 ∧ (a = none → n = 0 ∧ c = 0) ∧ At w w.heap.size a n (fun i => .bool (D i)) := by
  rcases open_bools Try.underlying23 Try.underlying4 cells4 h with ⟨hcs, _⟩ | ⟨a', len, cap, D, hcs, _, hl, hm, _, hx⟩
  · simp only [List.cons.injEq, Value.slice.injEq, and_true] at hcs
    obtain ⟨rfl, rfl, rfl⟩ := hcs
    exact ⟨fun _ => false, by omega, fun _ => ⟨rfl, rfl⟩, Or.inl rfl⟩
  · simp only [List.cons.injEq, Value.slice.injEq, and_true] at hcs
    obtain ⟨rfl, rfl, rfl⟩ := hcs
    unfold maxLen at hm
    exact ⟨D, by omega, (fun h => by cases h), at_of (fun i hi => hx i (by omega))⟩

theorem isPaths_of {fuel : Nat} {a : Option Addr} {n c : Nat} {x : DataW H × List MemPlace} (h : DataW.trod enc Try.prog w base (fun _ => true) held fuel 22 [.slice a n c] = some x) :
    ∃ (PA : Nat → Option Addr) (PL PC : Nat → Nat) (PS : Nat → Nat → ByteArray), n ≤ 9223372036854775807 ∧ (a = none → n = 0 ∧ c = 0) ∧ At w w.heap.size a n (fun i => .slice (PA i) (PL i) (PC i)) ∧
      ∀ i, i < n → IsStrs w (PA i) (PL i) (PC i) (PS i) := by
  rcases open_slice1 Try.underlying22 cells24 h with ⟨hcs, _⟩ | ⟨a', len, cap, m, k, V, D, Pl, hcs, _, hl, hm, hmm, _, hx⟩
  · simp only [List.cons.injEq, Value.slice.injEq, and_true] at hcs
    obtain ⟨rfl, rfl, rfl⟩ := hcs
    exact ⟨fun _ => none, fun _ => 0, fun _ => 0, fun _ _ => ⟨#[]⟩, by omega, fun _ => ⟨rfl, rfl⟩, Or.inl rfl, fun i hi => absurd hi (Nat.not_lt_zero i)⟩
  · simp only [List.cons.injEq, Value.slice.injEq, and_true] at hcs
    obtain ⟨rfl, rfl, rfl⟩ := hcs
    simp only [if_true] at hmm
    subst hmm
    unfold maxLen at hm
    have each : ∀ i, i < n → ∃ y : Option Addr × Nat × Nat × (Nat → ByteArray), V i = .slice y.1 y.2.1 y.2.2.1 ∧ IsStrs w y.1 y.2.1 y.2.2.1 y.2.2.2 := by
      intro i hi
      have hy := (hx i (by omega)).2
      have hform : ∃ a2 l2 c2, V i = .slice a2 l2 c2 := by
        rcases open_strs Try.underlying24 Try.underlying9 cells9 hy with ⟨hcs, _⟩ | ⟨a', len, cap, m, S, hcs, _⟩
        · exact ⟨_, _, _, by simpa using hcs⟩
        · exact ⟨_, _, _, by simpa using hcs⟩
      obtain ⟨a2, l2, c2, hV⟩ := hform
      rw [hV] at hy
      obtain ⟨S, hS⟩ := isStrs_of hy
      exact ⟨(a2, l2, c2, S), hV, hS⟩
    obtain ⟨Y, hY⟩ := choose_lt each
    refine ⟨fun i => (Y i).1, fun i => (Y i).2.1, fun i => (Y i).2.2.1, fun i => (Y i).2.2.2, by omega, (fun h => by cases h), at_of (fun i hi => ?_), fun i hi => (hY i hi).2⟩
    rw [(hx i (by omega)).1, (hY i hi).1]

theorem args_of {f0 f1 f2 : Nat} {ap ad an : Option Addr} {np cp nd cd nn cn : Nat} {x0 x1 x2 : DataW H × List MemPlace}
    (h0 : DataW.trod enc Try.prog w base (fun _ => true) held f0 22 [.slice ap np cp] = some x0)
    (h1 : DataW.trod enc Try.prog w base (fun _ => true) held f1 23 [.slice ad nd cd] = some x1)
    (h2 : DataW.trod enc Try.prog w base (fun _ => true) held f2 24 [.slice an nn cn] = some x2) :
    ∃ PA PL PC PS DS NS, Args w ap ad an np cp nd cd nn cn PA PL PC PS DS NS := by
  obtain ⟨PA, PL, PC, PS, a1, a2, a3, a4⟩ := isPaths_of h0
  obtain ⟨DS, b1, b2, b3⟩ := isBools_of h1
  obtain ⟨NS, c1, c2, c3, c4⟩ := isStrs_of h2
  exact ⟨PA, PL, PC, PS, DS, NS, a1, b1, c1, a2, b2, c2, a3, fun i hi => ⟨(a4 i hi).1, (a4 i hi).2.2.1, (a4 i hi).2.2.2⟩, fun i hi => (a4 i hi).2.1, b3, c3, c4⟩

end
end Go.Proofs.Qxb6626462a
