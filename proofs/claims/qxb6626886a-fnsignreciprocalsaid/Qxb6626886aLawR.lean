import Derived.Test.Qxb6626886aLawN
namespace Go.Proofs.Qxb6626886a
open Go.RowKit

set_option maxHeartbeats 1000000 in
theorem law4 (a d : Int) (w : World) (ha1 : -9223372036854775808 ≤ a) (ha2 : a ≤ 9223372036854775807) (hd1 : -9223372036854775808 ≤ d) (hd2 : d ≤ 9223372036854775807) :
    Calls Try.prog 4 #[.int .i64 a, .int .i64 d] w (Yes w) := by
  by_cases g0 : a < -9223372036854775807
  · have g0' : (a == -9223372036854775808) = true := beq_iff_eq.2 (by omega)
    go_enter Try.func4, Try.ntmps4
    go_wp2_with fail
    go_ret
    exact ⟨rfl, Below.refl _ _⟩
  have g0' : (a == -9223372036854775808) = false := beq_eq_false_iff_ne.2 (by omega)
  by_cases g1 : d < 0
  · go_enter Try.func4, Try.ntmps4
    go_wp2_with fail
    go_ret
    exact ⟨rfl, Below.refl _ _⟩
  by_cases g2 : 9223372036854775806 < d
  · go_enter Try.func4, Try.ntmps4
    go_wp2_with fail
    go_ret
    exact ⟨rfl, Below.refl _ _⟩
  have H6 : Hid (Calls Try.prog 6 #[.int .i64 a] w (SomeU w)) := abs6 a w (by omega) ha2
  go_enter Try.func4, Try.ntmps4
  go_wp2_with (go_at_call 6; refine H6.out.mono ?_)
  rintro e w1 ⟨u, rfl, hu1, hu2, hb1⟩
  have B1 : Hid (Below w.heap.size w w1) := hb1
  clear hb1 H6
  have H5 : Hid (Calls Try.prog 5 #[.int .u64 u, .int .u64 (d + 1)] w1 (SomeU w1)) := gcd5 u (d + 1) w1 hu1 hu2 (by omega) (by omega)
  go_wp2_with (go_at_call 5; refine H5.out.mono ?_)
  rintro e w2 ⟨g, rfl, hg1, hg2, hb2⟩
  have B2 : Hid (Below w.heap.size w w2) := B1.out.trans (hb2.mono B1.out.size)
  clear hb2 H5 B1 hg1 hg2
  by_cases h1 : g = 1
  rotate_left
  · have h1' : (g != 1) = true := by rw [bne_iff_ne]; exact h1
    go_wp2_with fail
    go_ret
    exact ⟨rfl, B2.out⟩
  have h1' : (g != 1) = false := by rw [h1]; rfl
  clear h1
  have H7 : Hid (Calls Try.prog 7 #[.int .i64 a, .int .i64 d] w2 (Wrote w2 (.agg #[.int .i64 a, .int .i64 d]))) := rat7 a d w2
  go_wp2_with (go_at_call 7; refine H7.out.mono ?_)
  rintro e w3 ⟨rfl, hb3⟩
  have B3 : Hid (Below w.heap.size w w3) := B2.out.trans (hb3.mono B2.out.size)
  clear hb3 H7 B2
  have H8 : Hid (Calls Try.prog 8 #[.agg #[.int .i64 a, .int .i64 d]] (w3.alloc (.cells #[.int .i64 a, .int .i64 d] 26)) (Wrote (w3.alloc (.cells #[.int .i64 a, .int .i64 d] 26)) (.int .i64 (sgn a)))) := sign8 a d _
  go_wp2_with (go_at_call 8; refine H8.out.mono ?_)
  rintro e w4 ⟨rfl, hb4⟩
  have B4 : Hid (Below w.heap.size w w4) := (B3.out.alloc B3.out.size _).trans (hb4.mono (by have := B3.out.size; simp; omega))
  clear hb4 H8 B3
  rcases (show a = 0 ∨ a < 0 ∨ 0 < a from by omega) with h | h | h
  · have s1 : sgn a = 0 := by rw [h]; rfl
    have t0 : (a == 0) = true := by rw [h]; rfl
    rw [s1]
    clear s1 h
    go_wp2_with fail
    go_ret
    exact ⟨rfl, B4.out⟩
  · have s1 : sgn a = -1 := by unfold sgn; rw [if_pos h]
    have s2 : sgn (-(d + 1)) = -1 := by unfold sgn; rw [if_pos (by omega)]
    have t0 : (a == 0) = false := beq_eq_false_iff_ne.2 (by omega)
    rw [s1]
    clear s1
    have H7b : Hid (Calls Try.prog 7 #[.int .i64 (-(d + 1)), .int .i64 (-a - 1)] w4 (Wrote w4 (.agg #[.int .i64 (-(d + 1)), .int .i64 (-a - 1)]))) := rat7 _ _ w4
    have H8b : ∀ w5, Hid (Calls Try.prog 8 #[.agg #[.int .i64 (-(d + 1)), .int .i64 (-a - 1)]] w5 (Wrote w5 (.int .i64 (-1)))) := fun w5 => by have := sign8 (-(d + 1)) (-a - 1) w5; rw [s2] at this; exact this
    clear s2
    go_wp2_with (go_at_call 7; refine H7b.out.mono ?_)
    rintro e w5 ⟨rfl, hb5⟩
    have B5 : Hid (Below w.heap.size w w5) := B4.out.trans (hb5.mono B4.out.size)
    clear hb5 H7b B4
    go_wp2_with (go_at_call 8; refine (H8b _).out.mono ?_)
    rintro e w6 ⟨rfl, hb6⟩
    have B6 : Hid (Below w.heap.size w w6) := (B5.out.alloc B5.out.size _).trans (hb6.mono (by have := B5.out.size; simp; omega))
    clear hb6 H8b B5
    go_wp2_with fail
    go_ret
    exact ⟨rfl, B6.out⟩
  · have s1 : sgn a = 1 := by unfold sgn; rw [if_neg (by omega), if_pos h]
    have s2 : sgn (d + 1) = 1 := by unfold sgn; rw [if_neg (by omega), if_pos (by omega)]
    have t0 : (a == 0) = false := beq_eq_false_iff_ne.2 (by omega)
    rw [s1]
    clear s1
    have H7b : Hid (Calls Try.prog 7 #[.int .i64 (d + 1), .int .i64 (a - 1)] w4 (Wrote w4 (.agg #[.int .i64 (d + 1), .int .i64 (a - 1)]))) := rat7 _ _ w4
    have H8b : ∀ w5, Hid (Calls Try.prog 8 #[.agg #[.int .i64 (d + 1), .int .i64 (a - 1)]] w5 (Wrote w5 (.int .i64 1))) := fun w5 => by have := sign8 (d + 1) (a - 1) w5; rw [s2] at this; exact this
    clear s2
    go_wp2_with (go_at_call 7; refine H7b.out.mono ?_)
    rintro e w5 ⟨rfl, hb5⟩
    have B5 : Hid (Below w.heap.size w w5) := B4.out.trans (hb5.mono B4.out.size)
    clear hb5 H7b B4
    go_wp2_with (go_at_call 8; refine (H8b _).out.mono ?_)
    rintro e w6 ⟨rfl, hb6⟩
    have B6 : Hid (Below w.heap.size w w6) := (B5.out.alloc B5.out.size _).trans (hb6.mono (by have := B5.out.size; simp; omega))
    clear hb6 H8b B5
    go_wp2_with fail
    go_ret
    exact ⟨rfl, B6.out⟩

end Go.Proofs.Qxb6626886a
