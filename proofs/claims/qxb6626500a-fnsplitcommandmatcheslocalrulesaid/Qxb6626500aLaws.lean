import Derived.Test.Qxb6626500aModel
namespace Go.Proofs.Qxb6626500a
open Go.RowKit

def Yes (w : World) (e : Ending) (w' : World) : Prop := e = .returned (.bool true) ∧ Below w.heap.size w w'

theorem endB_size (s : ByteArray) : (endB s).size ≤ s.size + 1 := by
  unfold endB endL
  rw [size_mk]
  split
  · rw [List.length_append, len_eq]; simp
  · rw [len_eq]; omega

theorem spl_size (s : ByteArray) : (splB1 s).size ≤ s.size ∧ (splB2 s).size ≤ s.size + 1 := by
  rcases (show fs 0 s.data.toList = none ∨ ∃ k, fs 0 s.data.toList = some k from by cases fs 0 s.data.toList <;> simp) with h | ⟨k, h⟩
  · obtain ⟨e1, e2⟩ := spl_none h
    rw [e1, e2]
    exact ⟨decB_size s 0 s.size (Nat.le_refl _), Nat.zero_le _⟩
  · obtain ⟨e1, e2⟩ := spl_some h
    have hk := (fs_some h).1
    rw [len_eq] at hk
    rw [e1, e2]
    have h1 := decB_size s 0 k (by omega)
    have h2 := endB_size (decB s (k + 1) s.size)
    have h3 := decB_size s (k + 1) s.size (Nat.le_refl _)
    omega

theorem app_list (s t : ByteArray) : (s ++ ⟨#[37]⟩ ++ t).data.toList = s.data.toList ++ 37 :: t.data.toList := by
  simp [ByteArray.data_append]

theorem law_first {s : ByteArray} (t : ByteArray) (h : fs 0 s.data.toList = none) (hl : s.data.toList.getLast? ≠ some 92) : splB1 (s ++ ⟨#[37]⟩ ++ t) = decB s 0 s.size := by
  have := (append_law s.data.toList t.data.toList h hl).2.1
  unfold splB1
  rw [app_list, this]
  unfold decB
  rw [decL_all]

theorem law_some {s t : ByteArray} {k : Nat} (h : fs 0 s.data.toList = none) (hl : s.data.toList.getLast? ≠ some 92) (hk : fs 0 t.data.toList = some k) : splB2 (s ++ ⟨#[37]⟩ ++ t) = splB1 t ++ ⟨#[10]⟩ ++ splB2 t := by
  have := (append_law s.data.toList t.data.toList h hl).2.2.1 k hk
  apply bytes_ext
  unfold splB2 splB1
  rw [app_list, this]
  simp [ByteArray.data_append]

theorem law_none {s t : ByteArray} (h : fs 0 s.data.toList = none) (hl : s.data.toList.getLast? ≠ some 92) (hk : fs 0 t.data.toList = none) : splB2 (s ++ ⟨#[37]⟩ ++ t) = endB (splB1 t) ∧ splB2 t = ⟨#[]⟩ := by
  have := (append_law s.data.toList t.data.toList h hl).2.2.2 hk
  unfold splB2 splB1 endB
  rw [app_list, this.1, this.2]
  exact ⟨rfl, rfl⟩

theorem app_size (s t : ByteArray) : (s ++ ⟨#[37]⟩ ++ t).size = s.size + 1 + t.size := by
  simp only [ByteArray.size_append]
  rfl

set_option maxHeartbeats 1000000 in
theorem law4 (s t : ByteArray) (w : World) (hs : s.size ≤ 9223372036854775807) (ht : t.size ≤ 9223372036854775807) : Calls Try.prog 4 #[.string s, .string t] w (Yes w) := by
  have H8 : Hid (Calls Try.prog 8 #[.string s, .string t] w (Told w (Hid (s.size ≤ 1048576 ∧ t.size ≤ 1048576)))) := bytes8 s t w hs ht
  go_enter Try.func4, Try.ntmps4
  go_wp2_with (go_at_call 8; refine H8.out.mono ?_)
  rintro e w' ⟨r, rfl, rfl, hr⟩
  clear H8
  cases r
  · go_wp2_with fail
    go_ret
    exact ⟨rfl, Below.refl _ _⟩
  obtain ⟨hs1, ht1⟩ := (hr rfl).out
  clear hr
  by_cases g1 : 524288 < s.size
  · have g1' : (524288 : Int) < s.size := by omega
    go_wp2_with fail
    go_ret
    exact ⟨rfl, Below.refl _ _⟩
  by_cases g2 : 524288 < t.size
  · have g2' : (524288 : Int) < t.size := by omega
    go_wp2_with fail
    go_ret
    exact ⟨rfl, Below.refl _ _⟩
  have H9 : Hid (Calls Try.prog 9 #[.string s] w' (Gave w' (.int .i64 (fsI s.data.toList)))) := first9 s w' (by omega)
  rcases (show fs 0 s.data.toList = none ∨ ∃ k, fs 0 s.data.toList = some k from by cases fs 0 s.data.toList <;> simp) with hf | ⟨k, hf⟩
  rotate_left
  · have ef : fsI s.data.toList = k := by unfold fsI; rw [hf]
    rw [ef] at H9
    clear ef hf
    go_wp2_with (go_at_call 9; refine H9.out.mono ?_)
    rintro e w ⟨rfl, rfl⟩
    clear H9
    go_wp2_with fail
    go_ret
    exact ⟨rfl, Below.refl _ _⟩
  have ef : fsI s.data.toList = -1 := by unfold fsI; rw [hf]
  rw [ef] at H9
  have HF : Hid (fs 0 s.data.toList = none) := hf
  clear ef hf
  go_wp2_with (go_at_call 9; refine H9.out.mono ?_)
  rintro e w ⟨rfl, rfl⟩
  clear H9
  have hlast : s.data.toList.getLast? = some 92 ∨ s.data.toList.getLast? ≠ some 92 := by
    by_cases h : s.data.toList.getLast? = some 92
    · exact Or.inl h
    · exact Or.inr h
  rcases hlast with hl | hl
  · have hp : 0 < s.size := by
      rcases Nat.eq_zero_or_pos s.size with h | h
      · rw [nil_of s h] at hl; simp at hl
      · exact h
    rw [last_at s hp] at hl
    have t1 : ((s[s.size - 1].toNat : Int) == 92) = true := beq_iff_eq.2 ((b92 _).2 (by simpa using hl))
    clear hl
    go_wp2_with fail
    go_ret
    exact ⟨rfl, Below.refl _ _⟩
  have HL : Hid (s.data.toList.getLast? ≠ some 92) := hl
  have hpos : 3 * s.size ≤ 2 ∨ ∃ h : 0 < s.size, ((s[s.size - 1].toNat : Int) == 92) = false := by
    rcases Nat.eq_zero_or_pos s.size with h | h
    · exact Or.inl (by omega)
    · refine Or.inr ⟨h, ?_⟩
      rw [last_at s h] at hl
      exact beq_eq_false_iff_ne.2 (fun h2 => hl (by rw [(b92 _).1 h2]))
  clear hl
  have H6 : Hid (Calls Try.prog 6 #[.string s] w (Wrote w (.tuple #[.string (splB1 s), .string (splB2 s)]))) := split6 s w (by omega)
  obtain ⟨e1, e2⟩ := spl_none HF.out
  rw [e1, e2] at H6
  clear e1 e2
  have hz1 := decB_size s 0 s.size (Nat.le_refl _)
  have hz2 := (spl_size t).1
  have hz3 := (spl_size t).2
  have hsa := app_size s t
  have HU : Hid (splB1 (s ++ ⟨#[37]⟩ ++ t) = decB s 0 s.size) := law_first t HF.out HL.out
  have hsa2 : (s ++ ⟨#[37]⟩ ++ t).size ≤ 2097152 := by omega
  clear hsa
  rcases hpos with h0 | ⟨h0, t1⟩
  all_goals
    go_wp2_with (go_at_call 6; refine H6.out.mono ?_)
    rintro e w1 ⟨rfl, hb1⟩
    have B1 : Hid (Below w.heap.size w w1) := hb1
    clear hb1 H6
    have HD : Hid (Calls Try.prog 10 #[.string s, .int .i64 0, .int .i64 s.size] w1 (Wrote w1 (.string (decB s 0 s.size)))) := dec10 s 0 s.size w1 (by omega) (Nat.zero_le _) (Nat.le_refl _)
    go_wp2_with (go_at_call 10; refine HD.out.mono ?_)
    rintro e w2 ⟨rfl, hb2⟩
    have B2 : Hid (Below w.heap.size w w2) := B1.out.trans (hb2.mono B1.out.size)
    clear hb2 HD B1
    have H6u : Hid (Calls Try.prog 6 #[.string (s ++ ⟨#[37]⟩ ++ t)] w2 (Wrote w2 (.tuple #[.string (splB1 (s ++ ⟨#[37]⟩ ++ t)), .string (splB2 (s ++ ⟨#[37]⟩ ++ t))]))) := split6 _ w2 hsa2
    rw [HU.out] at H6u
    go_wp2_with (go_at_call 6; refine H6u.out.mono ?_)
    rintro e w3 ⟨rfl, hb3⟩
    have B3 : Hid (Below w.heap.size w w3) := B2.out.trans (hb3.mono B2.out.size)
    clear hb3 H6u B2 HU
    have H6t : Hid (Calls Try.prog 6 #[.string t] w3 (Wrote w3 (.tuple #[.string (splB1 t), .string (splB2 t)]))) := split6 t w3 (by omega)
    go_wp2_with (go_at_call 6; refine H6t.out.mono ?_)
    rintro e w4 ⟨rfl, hb4⟩
    have B4 : Hid (Below w.heap.size w w4) := B3.out.trans (hb4.mono B3.out.size)
    clear hb4 H6t B3
    have H9t : Hid (Calls Try.prog 9 #[.string t] w4 (Gave w4 (.int .i64 (fsI t.data.toList)))) := first9 t w4 (by omega)
    rcases (show fs 0 t.data.toList = none ∨ ∃ k, fs 0 t.data.toList = some k from by cases fs 0 t.data.toList <;> simp) with hf | ⟨k, hf⟩
    · have ef : fsI t.data.toList = -1 := by unfold fsI; rw [hf]
      obtain ⟨u1, u2⟩ := law_none HF.out HL.out hf
      rw [ef] at H9t
      rw [u1, u2]
      clear ef hf u1 u2
      go_wp2_with (go_at_call 9; refine H9t.out.mono ?_)
      rintro e w5 ⟨rfl, hw5⟩
      subst hw5
      clear H9t
      have H11 : Hid (Calls Try.prog 11 #[.string (splB1 t)] w5 (Gave w5 (.string (endB (splB1 t))))) := end11 _ w5 (by omega)
      go_wp2_with (go_at_call 11; refine H11.out.mono ?_)
      rintro e w6 ⟨rfl, hw6⟩
      subst hw6
      clear H11
      go_wp2_with fail
      go_ret
      exact ⟨rfl, B4.out⟩
    · have ef : fsI t.data.toList = k := by unfold fsI; rw [hf]
      have u1 := law_some HF.out HL.out hf
      rw [ef] at H9t
      rw [u1]
      clear ef hf u1
      go_wp2_with (go_at_call 9; refine H9t.out.mono ?_)
      rintro e w5 ⟨rfl, hw5⟩
      subst hw5
      clear H9t
      go_wp2_with fail
      go_ret
      exact ⟨rfl, B4.out⟩

set_option maxHeartbeats 400000 in
theorem law3 (s : ByteArray) (w : World) (hs : s.size ≤ 9223372036854775807) : Calls Try.prog 3 #[.string s] w (Yes w) := by
  have H5 : Hid (Calls Try.prog 5 #[.string s] w (Told w (Hid (s.size ≤ 1048576)))) := bytes5 s w hs
  go_enter Try.func3, Try.ntmps3
  go_wp2_with (go_at_call 5; refine H5.out.mono ?_)
  rintro e w' ⟨r, rfl, rfl, hr⟩
  clear H5
  cases r
  · go_wp2_with fail
    go_ret
    exact ⟨rfl, Below.refl _ _⟩
  have hs1 := (hr rfl).out
  clear hr
  have H6 : Hid (Calls Try.prog 6 #[.string s] w' (Wrote w' (.tuple #[.string (splB1 s), .string (splB2 s)]))) := split6 s w' (by omega)
  go_wp2_with (go_at_call 6; refine H6.out.mono ?_)
  rintro e w1 ⟨rfl, hb1⟩
  have B1 : Hid (Below w'.heap.size w' w1) := hb1
  clear hb1 H6
  have H7 : Hid (Calls Try.prog 7 #[.string s] w1 (Wrote w1 (.tuple #[.string (splB1 s), .string (splB2 s)]))) := model7 s w1 (by omega)
  go_wp2_with (go_at_call 7; refine H7.out.mono ?_)
  rintro e w2 ⟨rfl, hb2⟩
  have B2 : Hid (Below w'.heap.size w' w2) := B1.out.trans (hb2.mono B1.out.size)
  clear hb2 H7 B1
  go_wp2_with fail
  go_ret
  exact ⟨rfl, B2.out⟩
end Go.Proofs.Qxb6626500a
