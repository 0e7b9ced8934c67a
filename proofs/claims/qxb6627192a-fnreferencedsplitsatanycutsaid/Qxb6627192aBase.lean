import Derived.Test.Qxb6627192aRows
import Derived.WalkKit
import Derived.WalkSpells
import Derived.WalkLawsBesides
import Derived.WalkSmall
namespace Go.Proofs.Qxb6627192a
open Go.RowKit

/-- Element i (of n) of the slice at a lies in a block below B and holds F i. -/
def At (w : World) (B : Nat) (a : Option Addr) (n : Nat) (F : Nat → Value) : Prop :=
  n = 0 ∨ ∃ b o, a = some ⟨b, o, none⟩ ∧ b < B ∧ ∀ i, i < n → w.cell? ⟨b, o + i, none⟩ = some (F i)

theorem At.pos {w : World} {B : Nat} {a : Option Addr} {n : Nat} {F : Nat → Value} (h : At w B a n F) {k : Nat} (hk : k < n) :
    ∃ b o, a = some ⟨b, o, none⟩ ∧ b < B ∧ ∀ i, i < n → w.cell? ⟨b, o + i, none⟩ = some (F i) := by
  rcases h with h | h
  · omega
  · exact h

/-- A column: its seven cells. -/
structure Col where
  nm : ByteArray
  ty : ByteArray
  nl : Option Addr
  df : ByteArray
  idn : ByteArray
  pk : Bool
  rf : ByteArray

/-- Column c lies at ⟨b, o⟩. -/
structure ColAt (w : World) (b o : Nat) (c : Col) : Prop where
  c0 : w.cell? ⟨b, o, none⟩ = some (.string c.nm)
  c1 : w.cell? ⟨b, o + 1, none⟩ = some (.string c.ty)
  c2 : w.cell? ⟨b, o + 2, none⟩ = some (.pointer c.nl)
  c3 : w.cell? ⟨b, o + 3, none⟩ = some (.string c.df)
  c4 : w.cell? ⟨b, o + 4, none⟩ = some (.string c.idn)
  c5 : w.cell? ⟨b, o + 5, none⟩ = some (.bool c.pk)
  c6 : w.cell? ⟨b, o + 6, none⟩ = some (.string c.rf)

/-- The n columns of the slice at a. -/
def Cols (w : World) (B : Nat) (a : Option Addr) (n : Nat) (C : Nat → Col) : Prop :=
  n = 0 ∨ ∃ b o, a = some ⟨b, o, none⟩ ∧ b < B ∧ ∀ i, i < n → ColAt w b (o + i * 7) (C i)

theorem Cols.pos {w : World} {B : Nat} {a : Option Addr} {n : Nat} {C : Nat → Col} (h : Cols w B a n C) {k : Nat} (hk : k < n) :
    ∃ b o, a = some ⟨b, o, none⟩ ∧ b < B ∧ ∀ i, i < n → ColAt w b (o + i * 7) (C i) := by
  rcases h with h | h
  · omega
  · exact h

/-- Each text of a column has at most m bytes. -/
def Col.le (c : Col) (m : Nat) : Prop := c.nm.size ≤ m ∧ c.ty.size ≤ m ∧ c.df.size ≤ m ∧ c.idn.size ≤ m ∧ c.rf.size ≤ m

/-- A bool comes back; nothing old has turned; a yes gives p. -/
def Told (w : World) (p : Prop) (e : Ending) (w' : World) : Prop :=
  ∃ r, e = .returned (.bool r) ∧ Below w.heap.size w w' ∧ (r = true → p)

theorem Told.no {w w' : World} (p : Prop) (h : Below w.heap.size w w') : Told w p (.returned (.bool false)) w' := ⟨false, rfl, h, by simp⟩
theorem Told.yes {w w' : World} {p : Prop} (h : Below w.heap.size w w') (hp : p) : Told w p (.returned (.bool true)) w' := ⟨true, rfl, h, fun _ => hp⟩

def Small (n : Nat) (C : Nat → Col) : Prop := n ≤ 1048576 ∧ ∀ i, i < n → (C i).le 1048576

set_option maxRecDepth 100000 in
set_option maxHeartbeats 1000000 in
theorem bytes5 (w : World) (B : Nat) (tb : ByteArray) (a : Option Addr) (n c : Nat) (x : Int) (C : Nat → Col)
    (ht : tb.size ≤ 9223372036854775807) (hn : n ≤ 9223372036854775807) (hC : Cols w B a n C) (hL : ∀ i, i < n → (C i).le 9223372036854775807) :
    Calls Try.prog 5 #[.string tb, .slice a n c, .int .i64 x] w (Told w (Small n C)) := by
  go_enter Try.func5, Try.ntmps5
  go_wp2_with fail
  · go_ret
    exact Told.no _ (Below.refl _ _)
  · go_ret
    exact Told.no _ (Below.refl _ _)
  · go_ret
    exact Told.no _ (Below.refl _ _)
  have hn' : n ≤ 1048576 := by omega
  go_loop [7, 8] (fun z i => ∃ (k : Nat) (zz : Int), k ≤ n ∧ 0 ≤ zz ∧ zz ≤ 1048576 ∧ z = .int .i64 zz ∧ i = .int .i64 k ∧ ∀ i, i < k → (C i).le 1048576) (fun _ i => n - (intOf i).toNat)
  case atStart => exact ⟨0, _, Nat.zero_le _, by omega, by omega, rfl, rfl, fun i hi => absurd hi (Nat.not_lt_zero i)⟩
  case round =>
    obtain ⟨k, zz, hk, hz0, hz1, rfl, rfl, hall⟩ := hrel
    by_cases hlt : k < n
    · obtain ⟨b, o, rfl, hb, hcell⟩ := hC.pos hlt
      obtain ⟨c0, c1, c2, c3, c4, c5, c6⟩ := hcell k hlt
      obtain ⟨l0, l1, l3, l4, l6⟩ := hL k hlt
      clear hcell
      have HA : Hid (∀ i, i < k → (C i).le 1048576) := hall
      clear hall
      go_wp2_with fail
      iterate 10
        · go_ret
          exact Told.no _ (Below.refl _ _)
      have hlek : (C k).le 1048576 := ⟨by omega, by omega, by omega, by omega, by omega⟩
      go_round
      case rel => exact ⟨k + 1, _, by omega, by omega, by omega, rfl, by go_num, fun i hi => by
                    rcases Nat.lt_or_ge i k with h | h
                    · exact HA.out i h
                    · have : i = k := by omega
                      rw [this]; exact hlek⟩
      case measure => simp [intOf]; omega
    · have hk' : k = n := by omega
      have H : Hid (Small n C) := ⟨hn', by rw [← hk']; exact hall⟩
      clear hall hk'
      go_wp2_with fail
      go_ret
      exact Told.yes (Below.refl _ _) H.out

set_option maxRecDepth 100000 in
set_option maxHeartbeats 1000000 in
theorem bytes11 (w : World) (B : Nat) (tb : ByteArray) (a : Option Addr) (n c : Nat) (C : Nat → Col)
    (ht : tb.size ≤ 9223372036854775807) (hn : n ≤ 9223372036854775807) (hC : Cols w B a n C) (hL : ∀ i, i < n → (C i).le 9223372036854775807) :
    Calls Try.prog 11 #[.string tb, .slice a n c] w (Told w (Small n C)) := by
  go_enter Try.func11, Try.ntmps11
  go_wp2_with fail
  · go_ret
    exact Told.no _ (Below.refl _ _)
  · go_ret
    exact Told.no _ (Below.refl _ _)
  · go_ret
    exact Told.no _ (Below.refl _ _)
  have hn' : n ≤ 1048576 := by omega
  go_loop [5, 6] (fun z i => ∃ (k : Nat) (zz : Int), k ≤ n ∧ 0 ≤ zz ∧ zz ≤ 1048576 ∧ z = .int .i64 zz ∧ i = .int .i64 k ∧ ∀ i, i < k → (C i).le 1048576) (fun _ i => n - (intOf i).toNat)
  case atStart => exact ⟨0, _, Nat.zero_le _, by omega, by omega, rfl, rfl, fun i hi => absurd hi (Nat.not_lt_zero i)⟩
  case round =>
    obtain ⟨k, zz, hk, hz0, hz1, rfl, rfl, hall⟩ := hrel
    by_cases hlt : k < n
    · obtain ⟨b, o, rfl, hb, hcell⟩ := hC.pos hlt
      obtain ⟨c0, c1, c2, c3, c4, c5, c6⟩ := hcell k hlt
      obtain ⟨l0, l1, l3, l4, l6⟩ := hL k hlt
      clear hcell
      have HA : Hid (∀ i, i < k → (C i).le 1048576) := hall
      clear hall
      go_wp2_with fail
      iterate 10
        · go_ret
          exact Told.no _ (Below.refl _ _)
      have hlek : (C k).le 1048576 := ⟨by omega, by omega, by omega, by omega, by omega⟩
      go_round
      case rel => exact ⟨k + 1, _, by omega, by omega, by omega, rfl, by go_num, fun i hi => by
                    rcases Nat.lt_or_ge i k with h | h
                    · exact HA.out i h
                    · have : i = k := by omega
                      rw [this]; exact hlek⟩
      case measure => simp [intOf]; omega
    · have hk' : k = n := by omega
      have H : Hid (Small n C) := ⟨hn', by rw [← hk']; exact hall⟩
      clear hall hk'
      go_wp2_with fail
      go_ret
      exact Told.yes (Below.refl _ _) H.out
end Go.Proofs.Qxb6627192a
