import Derived.Test.Qxb6627192aBase
namespace Go.Proofs.Qxb6627192a
open Go.RowKit

theorem ColAt.below {w w' : World} {B b o : Nat} {c : Col} (h : ColAt w b o c) (hb : Below B w w') (hlt : b < B) : ColAt w' b o c :=
  ⟨(hb.cell (p := ⟨b, o, none⟩) hlt).trans h.c0, (hb.cell (p := ⟨b, o + 1, none⟩) hlt).trans h.c1, (hb.cell (p := ⟨b, o + 2, none⟩) hlt).trans h.c2, (hb.cell (p := ⟨b, o + 3, none⟩) hlt).trans h.c3,
   (hb.cell (p := ⟨b, o + 4, none⟩) hlt).trans h.c4, (hb.cell (p := ⟨b, o + 5, none⟩) hlt).trans h.c5, (hb.cell (p := ⟨b, o + 6, none⟩) hlt).trans h.c6⟩

theorem Cols.below {w w' : World} {B : Nat} {a : Option Addr} {n : Nat} {C : Nat → Col} (h : Cols w B a n C) (hb : Below B w w') (hB : B ≤ w'.heap.size) : Cols w' w'.heap.size a n C := by
  rcases h with h | ⟨b, o, ha, hlt, hc⟩
  · exact Or.inl h
  · exact Or.inr ⟨b, o, ha, by omega, fun i hi => (hc i hi).below hb hlt⟩

theorem At.below {w w' : World} {a : Option Addr} {n : Nat} {F : Nat → Value} {B : Nat} (h : At w B a n F) (hb : Below B w w') (hB : B ≤ w'.heap.size) : At w' w'.heap.size a n F := by
  rcases h with h | ⟨b, o, ha, hlt, hc⟩
  · exact Or.inl h
  · exact Or.inr ⟨b, o, ha, by omega, fun i hi => (hb.cell (p := ⟨b, o + i, none⟩) hlt).trans (hc i hi)⟩

set_option maxRecDepth 100000 in
set_option maxHeartbeats 1000000 in
theorem size6 (w : World) (tb : ByteArray) (a : Option Addr) (n c : Nat) (C : Nat → Col)
    (ht : tb.size ≤ 9223372036854775807) (hC : Cols w w.heap.size a n C) (hS : Small n C) :
    Calls Try.prog 6 #[.string tb, .slice a n c] w (Told w True) := by
  obtain ⟨hn, hL⟩ := hS
  by_cases g1 : 1048576 < tb.size
  · have g1' : (1048576 : Int) < tb.size := by omega
    go_enter Try.func6, Try.ntmps6
    go_wp2_with fail
    go_ret
    exact Told.no _ (Below.refl _ _)
  by_cases g2 : 4096 < n
  · have g2' : (4096 : Int) < n := by omega
    go_enter Try.func6, Try.ntmps6
    go_wp2_with fail
    go_ret
    exact Told.no _ (Below.refl _ _)
  have HC : Hid (Cols w w.heap.size a n C) := hC
  have HL : Hid (∀ i, i < n → (C i).le 1048576) := hL
  clear hC hL
  go_enter Try.func6, Try.ntmps6
  go_wp2_with fail
  go_loopw [5, 6] (fun z i wr => ∃ (k : Nat) (zz : Int), k ≤ n ∧ 0 ≤ zz ∧ zz ≤ 1048576 ∧ z = .int .i64 zz ∧ i = .int .i64 k ∧ Below w.heap.size w wr) (fun _ i _ => n - (intOf i).toNat)
  case atStart => exact ⟨0, _, Nat.zero_le _, by omega, by omega, rfl, rfl, Below.refl _ _⟩
  case round =>
    obtain ⟨k, zz, hk, hz0, hz1, rfl, rfl, hbel⟩ := hrel
    by_cases hlt : k < n
    · obtain ⟨b, o, ha, hb, hcell⟩ := HC.out.pos hlt
      obtain ⟨c0, c1, c2, c3, c4, c5, c6⟩ := (hcell k hlt).below hbel hb
      obtain ⟨l0, l1, l3, l4, l6⟩ := HL.out k hlt
      have HB : Hid (Below w.heap.size w wr) := hbel
      have hsz := hbel.size
      subst ha
      clear hcell hbel
      go_wp2_with fail
      · go_ret
        exact Told.no _ (HB.out.alloc hsz _)
      go_roundw
      case rel => exact ⟨k + 1, _, by omega, by omega, by omega, rfl, by go_num, HB.out.alloc hsz _⟩
      case measure => simp [intOf]; omega
    · have HB : Hid (Below w.heap.size w wr) := hbel
      clear hbel
      go_wp2_with fail
      go_ret
      exact Told.yes HB.out trivial
end Go.Proofs.Qxb6627192a
