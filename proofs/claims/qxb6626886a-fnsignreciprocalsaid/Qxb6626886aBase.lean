import Derived.Test.Qxb6626886aRows
import Derived.WalkKit
import Derived.WalkSpells
import Derived.WalkLawsBesides
import Derived.Deep.QuietTactic
import Derived.BigQuiet
import Derived.WalkSmall
namespace Go.Proofs.Qxb6626886a
open Go.RowKit

def sgn (a : Int) : Int := if a < 0 then -1 else if 0 < a then 1 else 0

def Wrote (w : World) (v : Value) (e : Ending) (w' : World) : Prop := e = .returned v ∧ Below w.heap.size w w'

set_option maxHeartbeats 400000 in
theorem sign8 (a b : Int) (w : World) : Calls Try.prog 8 #[.agg #[.int .i64 a, .int .i64 b]] w (Wrote w (.int .i64 (sgn a))) := by
  by_cases h1 : a < 0
  · have fin : sgn a = -1 := by unfold sgn; rw [if_pos h1]
    rw [fin]
    clear fin
    go_enter Try.func8, Try.ntmps8
    go_wp2_with fail
    go_ret
    exact ⟨rfl, (Below.refl _ _).alloc (Nat.le_refl _) _⟩
  · by_cases h2 : 0 < a
    · have fin : sgn a = 1 := by unfold sgn; rw [if_neg h1, if_pos h2]
      rw [fin]
      clear fin
      go_enter Try.func8, Try.ntmps8
      go_wp2_with fail
      go_ret
      exact ⟨rfl, (Below.refl _ _).alloc (Nat.le_refl _) _⟩
    · have fin : sgn a = 0 := by unfold sgn; rw [if_neg h1, if_neg h2]
      rw [fin]
      clear fin
      go_enter Try.func8, Try.ntmps8
      go_wp2_with fail
      go_ret
      exact ⟨rfl, (Below.refl _ _).alloc (Nat.le_refl _) _⟩

set_option maxHeartbeats 400000 in
theorem rat7 (a b : Int) (w : World) : Calls Try.prog 7 #[.int .i64 a, .int .i64 b] w (Wrote w (.agg #[.int .i64 a, .int .i64 b])) := by
  go_enter Try.func7, Try.ntmps7
  go_wp2_with fail
  exact bodyPost_ret (v := .agg #[.int .i64 a, .int .i64 b]) (by simp [results, Try.results7, go_sem]) rfl ⟨rfl, (Below.refl _ _).alloc (Nat.le_refl _) _⟩

/-- Some uint64 comes back. -/
def SomeU (w : World) (e : Ending) (w' : World) : Prop := ∃ u : Int, e = .returned (.int .u64 u) ∧ 0 ≤ u ∧ u ≤ 18446744073709551615 ∧ Below w.heap.size w w'

set_option maxHeartbeats 400000 in
theorem abs6 (a : Int) (w : World) (h1 : -9223372036854775807 ≤ a) (h2 : a ≤ 9223372036854775807) : Calls Try.prog 6 #[.int .i64 a] w (SomeU w) := by
  by_cases h : a < 0
  · go_enter Try.func6, Try.ntmps6
    go_wp2_with fail
    go_ret
    exact ⟨_, rfl, by omega, by omega, Below.refl _ _⟩
  · go_enter Try.func6, Try.ntmps6
    go_wp2_with fail
    go_ret
    exact ⟨_, rfl, by omega, by omega, Below.refl _ _⟩

set_option maxHeartbeats 400000 in
theorem gcd5 (a b : Int) (w : World) (ha : 0 ≤ a) (ha2 : a ≤ 18446744073709551615) (hb : 0 ≤ b) (hb2 : b ≤ 18446744073709551615) : Calls Try.prog 5 #[.int .u64 a, .int .u64 b] w (SomeU w) := by
  go_enter Try.func5, Try.ntmps5
  go_wp2_with fail
  go_loopw [0, 1] (fun va vb wr => ∃ x y : Int, 0 ≤ x ∧ x ≤ 18446744073709551615 ∧ 0 ≤ y ∧ y ≤ 18446744073709551615 ∧ va = .int .u64 x ∧ vb = .int .u64 y ∧ Below w.heap.size w wr) (fun _ vb _ => (intOf vb).toNat)
  case atStart => exact ⟨a, b, ha, ha2, hb, hb2, rfl, rfl, Below.refl _ _⟩
  case round =>
    obtain ⟨x, y, hx, hx2, hy, hy2, rfl, rfl, hbel⟩ := hrel
    have HB : Hid (Below w.heap.size w wr) := hbel
    clear hbel
    by_cases h0 : y = 0
    · have t0 : (y != 0) = false := by rw [h0]; rfl
      clear h0
      go_wp2_with fail
      go_ret
      exact ⟨x, rfl, hx, hx2, HB.out⟩
    · have t0 : (y != 0) = true := by rw [bne_iff_ne]; exact h0
      go_wp2_with fail
      go_quiet (fail)
      go_wp2_with fail
      have hm1 := Int.emod_nonneg x h0
      have hm2 := Int.emod_lt_of_pos x (show 0 < y by omega)
      go_roundw
      case rel => exact ⟨y, x % y, hy, hy2, hm1, by omega, rfl, rfl, below_drewN HB.out _⟩
      case measure => simp [intOf]; omega
end Go.Proofs.Qxb6626886a
