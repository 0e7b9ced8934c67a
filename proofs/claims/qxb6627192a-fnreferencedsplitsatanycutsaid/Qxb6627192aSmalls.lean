import Derived.Test.Qxb6627192aRefd
import Derived.Deep.QuietTactic
import Derived.BigQuiet
namespace Go.Proofs.Qxb6627192a
open Go.RowKit

set_option maxHeartbeats 400000 in
theorem ref8 (w : World) (tb : ByteArray) (a : Option Addr) (n c : Nat) (C : Nat → Col) (hC : Cols w w.heap.size a n C) (hn : n ≤ 1048576) (hL : ∀ i, i < n → (C i).rf.size ≤ 1048576) :
    Calls Try.prog 8 #[.string tb, .slice a n c] w (GaveStrs w (refL (lst (rl C) n))) := by
  have hb : Below w.heap.size w (w.alloc (.cells #[.string tb, .slice a n c] 40)) := (Below.refl _ _).alloc (Nat.le_refl _) _
  have H : Hid (Calls Try.prog 14 #[.pointer (some ⟨w.heap.size, 0, none⟩)] (w.alloc (.cells #[.string tb, .slice a n c] 40)) (GaveStrs (w.alloc (.cells #[.string tb, .slice a n c] 40)) (refL (lst (rl C) n)))) :=
    refd14 _ w.heap.size a n c C (by simp) (by simp) (hC.below hb hb.size) hn hL
  clear hb hC hL
  go_enter Try.func8, Try.ntmps8
  go_wp2_with (go_at_call 14; refine H.out.mono ?_)
  rintro e w2 ⟨v, rfl, hs, hb2⟩
  have R : Hid (GaveStrs w (refL (lst (rl C) n)) (.returned v) w2) := ⟨v, rfl, hs, ((Below.refl _ _).alloc (Nat.le_refl _) _).trans (hb2.mono (by simp))⟩
  clear hs hb2 H
  go_wp2_with fail
  go_ret
  exact R.out

/-- An index comes back: not negative just where s is there. -/
def Found (w : World) (xs : List (List UInt8)) (s : List UInt8) (e : Ending) (w' : World) : Prop := ∃ i : Int, e = .returned (.int .i64 i) ∧ w' = w ∧ (if s ∈ xs then 0 ≤ i ∧ i ≤ 1048576 else i = -1)

theorem eq_lists (a b : ByteArray) : (a.toList == b.toList) = decide (a.data.toList = b.data.toList) := by
  rw [Lib.toList_data, Lib.toList_data, Bool.eq_iff_iff]
  simp

theorem getD_mem {xs : List (List UInt8)} {k : Nat} (hk : k < xs.length) : xs.getD k [] ∈ xs := by
  rw [List.getD_eq_getElem?_getD, List.getElem?_eq_getElem hk]
  exact List.getElem_mem hk

theorem mem_getD {xs : List (List UInt8)} {x : List UInt8} (h : x ∈ xs) : ∃ k, k < xs.length ∧ xs.getD k [] = x := by
  obtain ⟨k, hk, rfl⟩ := List.getElem_of_mem h
  exact ⟨k, hk, by rw [List.getD_eq_getElem?_getD, List.getElem?_eq_getElem hk]; rfl⟩

set_option maxHeartbeats 400000 in
theorem index13 (w : World) (a : Option Addr) (c : Nat) (xs : List (List UInt8)) (s : ByteArray) (hA : At w w.heap.size a xs.length (fun i => sv (xs.getD i []))) (hn : xs.length ≤ 1048576) :
    Calls Try.prog 13 #[.slice a xs.length c, .string s] w (Found w xs s.data.toList) := by
  obtain ⟨n, hxs⟩ : ∃ n, n = xs.length := ⟨_, rfl⟩
  rw [← hxs] at hA hn ⊢
  have HX : Hid (n = xs.length) := hxs
  clear hxs
  go_enter Try.func13, Try.ntmps13
  go_wp2_with fail
  go_loop [5] (fun i => ∃ k : Nat, k ≤ n ∧ i = .int .i64 k ∧ ∀ j, j < k → xs.getD j [] ≠ s.data.toList) (fun i => n - (intOf i).toNat)
  case atStart => exact ⟨0, Nat.zero_le _, rfl, fun j hj => absurd hj (Nat.not_lt_zero j)⟩
  case round =>
    obtain ⟨k, hk, rfl, hall⟩ := hrel
    by_cases hlt : k < n
    · obtain ⟨b, o, rfl, hb, hcell⟩ := hA.pos hlt
      have hc : w.cell? ⟨b, o + k, none⟩ = some (.string (bs (xs.getD k []))) := hcell k hlt
      obtain ⟨y, hy⟩ : ∃ y, y = bs (xs.getD k []) := ⟨_, rfl⟩
      rw [← hy] at hc
      have hyl : y.data.toList = xs.getD k [] := by rw [hy, bs_list]
      by_cases he : xs.getD k [] = s.data.toList
      · have t1 : (y.toList == s.toList) = true := by rw [eq_lists, hyl]; simpa using he
        have R : Hid (Found w xs s.data.toList (.returned (.int .i64 k)) w) := ⟨k, rfl, rfl, by
          rw [if_pos (by rw [← he]; exact getD_mem (by have := HX.out; omega))]; omega⟩
        clear hy hyl he hall hcell
        go_wp2_with fail
        go_ret
        exact R.out
      · have t1 : (y.toList == s.toList) = false := by rw [eq_lists, hyl]; simpa using he
        have R : Hid (∀ j, j < k + 1 → xs.getD j [] ≠ s.data.toList) := fun j hj => by
          rcases Nat.lt_or_ge j k with h | h
          · exact hall j h
          · have : j = k := by omega
            rw [this]; exact he
        clear hy hyl he hall hcell
        go_wp2_with fail
        go_round
        case rel => exact ⟨k + 1, by omega, by go_num, R.out⟩
        case measure => simp [intOf]; omega
    · have R : Hid (Found w xs s.data.toList (.returned (.int .i64 (-1))) w) := ⟨-1, rfl, rfl, by
        rw [if_neg (fun h => by obtain ⟨j, hj, e⟩ := mem_getD h; exact hall j (by have := HX.out; omega) e)]⟩
      clear hall
      go_wp2_with fail
      go_ret
      exact R.out

end Go.Proofs.Qxb6627192a
