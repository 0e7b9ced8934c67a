import Derived.Test.Qxb6627192aLawD
import Derived.ProofKit
import Derived.OpenShut
import Derived.ShutString
import Derived.ChangeOld
import Derived.Deep.Strs
namespace Go.Proofs.Qxb6627192a
open Go.ChangeShapes Go.WideShapes Go.ChangeAt Go.RowKit Go.Deep

theorem own : ownKnob Try.prog.godebug = none := by kernel_rfl
theorem laidOut : laidOutB Try.prog = true := by kernel_rfl
theorem cells33 : Try.prog.cellsOf 33 = 7 := by kernel_rfl
theorem cells31 : Try.prog.cellsOf 31 = 1 := by kernel_rfl
theorem cells9 : Try.prog.cellsOf 9 = 1 := by kernel_rfl
theorem cells4 : Try.prog.cellsOf 4 = 1 := by kernel_rfl

section
variable {H : Type} {enc : TypeId × Value → H} {w : World} {base : Nat} {held : Bool}

theorem nul_of {fuel : Nat} {v : Value} {x : DataW H × List MemPlace} (h : DataW.trod enc Try.prog w base (fun _ => true) held fuel 31 [v] = some x) :
    ∃ q : Option Addr, v = .pointer q ∧ (q = none ∨ ∃ b o y, q = some ⟨b, o, none⟩ ∧ b < w.heap.size ∧ w.cell? ⟨b, o, none⟩ = some (.bool y)) := by
  rcases DataW.trod_pointer Try.underlying31 h with ⟨hcs, _⟩ | ⟨a, cs', y, n, _, hcs, _, hc, hy⟩
  · exact ⟨none, by simpa using hcs, Or.inl rfl⟩
  · refine ⟨some a, by simpa using hcs, Or.inr ?_⟩
    obtain ⟨t, ht, _⟩ := DataW.trod_bool Try.underlying4 hy
    subst ht
    rw [cells4] at hc
    have hcell := cell_of_cells?_one hc
    obtain ⟨b, o, spot⟩ := a
    have hs : spot = none := by simpa using World.cell?_spot hcell
    subst hs
    exact ⟨b, o, t, rfl, by simpa using World.block_lt_of_cell? _ _ hcell, hcell⟩

theorem str_of {fuel : Nat} {v : Value} {x : DataW H × List MemPlace} (h : DataW.trod enc Try.prog w base (fun _ => true) held fuel 9 [v] = some x) : ∃ s : ByteArray, v = .string s ∧ s.size ≤ 9223372036854775807 := by
  obtain ⟨s, h1, _, h3⟩ := DataW.trod_string Try.underlying9 h
  unfold maxLen at h3
  exact ⟨s, by simpa using h1, h3⟩

/-- What is known of a column that is read. -/
structure IsCol (w : World) (c : Col) : Prop where
  le : c.le 9223372036854775807
  nul : c.nl = none ∨ ∃ b o v, c.nl = some ⟨b, o, none⟩ ∧ b < w.heap.size ∧ w.cell? ⟨b, o, none⟩ = some (.bool v)

theorem col_of {fuel : Nat} {cs : List Value} {x : DataW H × List MemPlace} (h : DataW.trod enc Try.prog w base (fun _ => true) held fuel 33 cs = some x) :
    ∃ c : Col, cs = [.string c.nm, .string c.ty, .pointer c.nl, .string c.df, .string c.idn, .bool c.pk, .string c.rf] ∧ IsCol w c := by
  obtain ⟨xs, n, _, _, hl, hlen, hf⟩ := DataW.trod_struct Try.underlying33 h
  rw [cells33] at hl
  match cs, hl with
  | [v0, v1, v2, v3, v4, v5, v6], _ =>
    match xs, hlen with
    | [x0, x1, x2, x3, x4, x5, x6], _ =>
      have g0 : DataW.trod enc Try.prog w base (fun _ => true) held n 9 (([v0, v1, v2, v3, v4, v5, v6].drop 0).take (Try.prog.cellsOf 9)) = some x0 := hf 0 _ rfl
      rw [cells9] at g0
      have g1 : DataW.trod enc Try.prog w base (fun _ => true) held n 9 (([v0, v1, v2, v3, v4, v5, v6].drop 1).take (Try.prog.cellsOf 9)) = some x1 := hf 1 _ rfl
      rw [cells9] at g1
      have g2 : DataW.trod enc Try.prog w base (fun _ => true) held n 31 (([v0, v1, v2, v3, v4, v5, v6].drop 2).take (Try.prog.cellsOf 31)) = some x2 := hf 2 _ rfl
      rw [cells31] at g2
      have g3 : DataW.trod enc Try.prog w base (fun _ => true) held n 9 (([v0, v1, v2, v3, v4, v5, v6].drop 3).take (Try.prog.cellsOf 9)) = some x3 := hf 3 _ rfl
      rw [cells9] at g3
      have g4 : DataW.trod enc Try.prog w base (fun _ => true) held n 9 (([v0, v1, v2, v3, v4, v5, v6].drop 4).take (Try.prog.cellsOf 9)) = some x4 := hf 4 _ rfl
      rw [cells9] at g4
      have g5 : DataW.trod enc Try.prog w base (fun _ => true) held n 4 (([v0, v1, v2, v3, v4, v5, v6].drop 5).take (Try.prog.cellsOf 4)) = some x5 := hf 5 _ rfl
      rw [cells4] at g5
      have g6 : DataW.trod enc Try.prog w base (fun _ => true) held n 9 (([v0, v1, v2, v3, v4, v5, v6].drop 6).take (Try.prog.cellsOf 9)) = some x6 := hf 6 _ rfl
      rw [cells9] at g6
      obtain ⟨s0, rfl, l0⟩ := str_of (v := v0) g0
      obtain ⟨s1, rfl, l1⟩ := str_of (v := v1) g1
      obtain ⟨q2, rfl, l2⟩ := nul_of (v := v2) g2
      obtain ⟨s3, rfl, l3⟩ := str_of (v := v3) g3
      obtain ⟨s4, rfl, l4⟩ := str_of (v := v4) g4
      obtain ⟨b5, e5, _⟩ := DataW.trod_bool (cs := [v5]) Try.underlying4 g5
      obtain rfl : v5 = .bool b5 := by simpa using e5
      obtain ⟨s6, rfl, l6⟩ := str_of (v := v6) g6
      exact ⟨⟨s0, s1, q2, s3, s4, b5, s6⟩, rfl, ⟨l0, l1, l3, l4, l6⟩, l2⟩

theorem choose_col {n : Nat} {p : Nat → Col → Prop} (h : ∀ i, i < n → ∃ c, p i c) : ∃ C : Nat → Col, ∀ i, i < n → p i (C i) := by
  obtain ⟨f, hf⟩ := choose_lt (α := ByteArray × ByteArray × Option Addr × ByteArray × ByteArray × Bool × ByteArray) (p := fun i y => p i ⟨y.1, y.2.1, y.2.2.1, y.2.2.2.1, y.2.2.2.2.1, y.2.2.2.2.2.1, y.2.2.2.2.2.2⟩) (fun i hi => by
    obtain ⟨c, hc⟩ := h i hi
    exact ⟨(c.nm, c.ty, c.nl, c.df, c.idn, c.pk, c.rf), hc⟩)
  exact ⟨_, hf⟩

theorem args_of {f0 : Nat} {tb : ByteArray} {a : Option Addr} {n c : Nat} {x0 : DataW H × List MemPlace} (ht : tb.size ≤ 9223372036854775807)
    (h0 : DataW.trod enc Try.prog w base (fun _ => true) held f0 22 [.slice a n c] = some x0) : ∃ C, Args w tb a n C := by
  rcases open_slice Try.underlying22 h0 with ⟨hcs, _⟩ | ⟨a', len, cap, m, k, D, Pl, hcs, _, hl, hm, hmm, _, hx⟩
  · simp only [List.cons.injEq, Value.slice.injEq, and_true] at hcs
    obtain ⟨rfl, rfl, rfl⟩ := hcs
    exact ⟨fun _ => zeroCol, ht, by omega, Or.inl rfl, fun i hi => absurd hi (Nat.not_lt_zero i), fun i hi => absurd hi (Nat.not_lt_zero i)⟩
  · simp only [List.cons.injEq, Value.slice.injEq, and_true] at hcs
    obtain ⟨rfl, rfl, rfl⟩ := hcs
    simp only [if_true] at hmm
    subst hmm
    unfold maxLen at hm
    rw [cells33] at hx
    obtain ⟨C, hC⟩ := choose_col (n := n) (p := fun i cc => w.cells? base (a'.add (i * 7)) 7 = some [.string cc.nm, .string cc.ty, .pointer cc.nl, .string cc.df, .string cc.idn, .bool cc.pk, .string cc.rf] ∧ IsCol w cc) (fun i hi => by
      obtain ⟨cs', h1, h2⟩ := hx i (by omega)
      obtain ⟨cc, rfl, h3⟩ := col_of h2
      exact ⟨cc, h1, h3⟩)
    refine ⟨C, ht, by omega, ?_, fun i hi => (hC i hi).2.le, fun i hi => (hC i hi).2.nul⟩
    rcases Nat.eq_zero_or_pos n with hz | hz
    · exact Or.inl hz
    · obtain ⟨b, o, spot⟩ := a'
      have hc0 := (World.cells?_some (hC 0 hz).1).2.2 0 (by omega)
      have hs : spot = none := by simpa [Addr.add] using World.cell?_spot hc0
      subst hs
      have hlt : b < w.heap.size := by simpa [Addr.add] using World.block_lt_of_cell? _ _ hc0
      refine Or.inr ⟨b, o, rfl, hlt, fun i hi => ?_⟩
      have hcell := (World.cells?_some (hC i hi).1).2.2
      rw [add_plain] at hcell
      have q : ∀ f, f < 7 → w.cell? ⟨b, o + i * 7 + f, none⟩ = [Value.string (C i).nm, .string (C i).ty, .pointer (C i).nl, .string (C i).df, .string (C i).idn, .bool (C i).pk, .string (C i).rf][f]? := fun f hf => by
        have := hcell f hf
        rwa [add_plain] at this
      exact ⟨q 0 (by omega), q 1 (by omega), q 2 (by omega), q 3 (by omega), q 4 (by omega), q 5 (by omega), q 6 (by omega)⟩

end
end Go.Proofs.Qxb6627192a
