import Derived.Test.Qxb6626886aBase
namespace Go.Proofs.Qxb6626886a
open Go.RowKit

def Yes (w : World) (e : Ending) (w' : World) : Prop := e = .returned (.bool true) ∧ Below w.heap.size w w'

set_option maxHeartbeats 1000000 in
theorem law3 (a d : Int) (w : World) (ha1 : -9223372036854775808 ≤ a) (ha2 : a ≤ 9223372036854775807) (hd1 : -9223372036854775808 ≤ d) (hd2 : d ≤ 9223372036854775807) :
    Calls Try.prog 3 #[.int .i64 a, .int .i64 d] w (Yes w) := by
  by_cases g0 : a < -9223372036854775807
  · have g0' : (a == -9223372036854775808) = true := beq_iff_eq.2 (by omega)
    go_enter Try.func3, Try.ntmps3
    go_wp2_with fail
    go_ret
    exact ⟨rfl, Below.refl _ _⟩
  have g0' : (a == -9223372036854775808) = false := beq_eq_false_iff_ne.2 (by omega)
  by_cases g1 : d < 0
  · go_enter Try.func3, Try.ntmps3
    go_wp2_with fail
    go_ret
    exact ⟨rfl, Below.refl _ _⟩
  by_cases g2 : 9223372036854775806 < d
  · go_enter Try.func3, Try.ntmps3
    go_wp2_with fail
    go_ret
    exact ⟨rfl, Below.refl _ _⟩
  have H6 : Hid (Calls Try.prog 6 #[.int .i64 a] w (SomeU w)) := abs6 a w (by omega) ha2
  go_enter Try.func3, Try.ntmps3
  go_wp2_with (go_at_call 6; refine H6.out.mono ?_)
  rintro e w1 ⟨u, rfl, hu1, hu2, hb1⟩
  have B1 : Hid (Below w.heap.size w w1) := hb1
  clear hb1 H6
  have H5 : Hid (Calls Try.prog 5 #[.int .u64 u, .int .u64 (d + 1)] w1 (SomeU w1)) := gcd5 u (d + 1) w1 hu1 hu2 (by omega) (by omega)
  go_wp2_with (go_at_call 5; refine H5.out.mono ?_)
  rintro e w2 ⟨g, rfl, hg1, hg2, hb2⟩
  have B2 : Hid (Below w.heap.size w w2) := B1.out.trans (hb2.mono B1.out.size)
  clear hb2 H5 B1 hg1 hg2
  by_cases h1 : g = 1
  rotate_left
  · have h1' : (g != 1) = true := by rw [bne_iff_ne]; exact h1
    go_wp2_with fail
    go_ret
    exact ⟨rfl, B2.out⟩
  have h1' : (g != 1) = false := by rw [h1]; rfl
  clear h1
  have H7 : Hid (Calls Try.prog 7 #[.int .i64 a, .int .i64 d] w2 (Wrote w2 (.agg #[.int .i64 a, .int .i64 d]))) := rat7 a d w2
  go_wp2_with (go_at_call 7; refine H7.out.mono ?_)
  rintro e w3 ⟨rfl, hb3⟩
  have B3 : Hid (Below w.heap.size w w3) := B2.out.trans (hb3.mono B2.out.size)
  clear hb3 H7 B2
  have H7b : Hid (Calls Try.prog 7 #[.int .i64 (-a), .int .i64 d] (w3.alloc (.cells #[.int .i64 a, .int .i64 d] 26)) (Wrote (w3.alloc (.cells #[.int .i64 a, .int .i64 d] 26)) (.agg #[.int .i64 (-a), .int .i64 d]))) := rat7 (-a) d _
  go_wp2_with (go_at_call 7; refine H7b.out.mono ?_)
  rintro e w4 ⟨rfl, hb4⟩
  have B4 : Hid (Below w.heap.size w w4) := (B3.out.alloc B3.out.size _).trans (hb4.mono (by have := B3.out.size; simp; omega))
  have c0 : w4.cell? ⟨w3.heap.size, 0, none⟩ = some (.int .i64 a) := (hb4.cell (p := ⟨w3.heap.size, 0, none⟩) (by simp)).trans (by simp)
  have c1 : w4.cell? ⟨w3.heap.size, 1, none⟩ = some (.int .i64 d) := (hb4.cell (p := ⟨w3.heap.size, 1, none⟩) (by simp)).trans (by simp)
  have z4 : w3.heap.size < w4.heap.size := by have := hb4.size; simp at this; omega
  clear hb4 H7b B3
  have H8 : Hid (Calls Try.prog 8 #[.agg #[.int .i64 a, .int .i64 d]] (w4.alloc (.cells #[.int .i64 (-a), .int .i64 d] 26)) (Wrote (w4.alloc (.cells #[.int .i64 (-a), .int .i64 d] 26)) (.int .i64 (sgn a)))) := sign8 a d _
  go_wp2_with (go_at_call 8; refine H8.out.mono ?_)
  rintro e w5 ⟨rfl, hb5⟩
  have B5 : Hid (Below w.heap.size w w5) := (B4.out.alloc B4.out.size _).trans (hb5.mono (by have := B4.out.size; simp; omega))
  have d0 : w5.cell? ⟨w4.heap.size, 0, none⟩ = some (.int .i64 (-a)) := (hb5.cell (p := ⟨w4.heap.size, 0, none⟩) (by simp)).trans (by simp)
  have d1 : w5.cell? ⟨w4.heap.size, 1, none⟩ = some (.int .i64 d) := (hb5.cell (p := ⟨w4.heap.size, 1, none⟩) (by simp)).trans (by simp)
  clear hb5 H8 B4 c0 c1
  have H8b : Hid (Calls Try.prog 8 #[.agg #[.int .i64 (-a), .int .i64 d]] w5 (Wrote w5 (.int .i64 (sgn (-a))))) := sign8 (-a) d _
  go_wp2_with (go_at_call 8; refine H8b.out.mono ?_)
  rintro e w6 ⟨rfl, hb6⟩
  have B6 : Hid (Below w.heap.size w w6) := B5.out.trans (hb6.mono B5.out.size)
  clear hb6 H8b B5 d0 d1
  rcases (show a = 0 ∨ a < 0 ∨ 0 < a from by omega) with h | h | h
  · have s1 : sgn a = 0 := by rw [h]; rfl
    have s2 : sgn (-a) = 0 := by rw [h]; rfl
    have t0 : (a == 0) = true := by rw [h]; rfl
    rw [s1, s2]
    clear s1 s2 h
    go_wp2_with fail
    go_ret
    exact ⟨rfl, B6.out⟩
  · have s1 : sgn a = -1 := by unfold sgn; rw [if_pos h]
    have s2 : sgn (-a) = 1 := by unfold sgn; rw [if_neg (by omega), if_pos (by omega)]
    have t0 : (a == 0) = false := beq_eq_false_iff_ne.2 (by omega)
    rw [s1, s2]
    clear s1 s2
    go_wp2_with fail
    go_ret
    exact ⟨rfl, B6.out⟩
  · have s1 : sgn a = 1 := by unfold sgn; rw [if_neg (by omega), if_pos h]
    have s2 : sgn (-a) = -1 := by unfold sgn; rw [if_pos (by omega)]
    have t0 : (a == 0) = false := beq_eq_false_iff_ne.2 (by omega)
    rw [s1, s2]
    clear s1 s2
    go_wp2_with fail
    go_ret
    exact ⟨rfl, B6.out⟩

end Go.Proofs.Qxb6626886a
