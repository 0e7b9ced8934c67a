import Derived.Test.Qxb6626500aSplit
namespace Go.Proofs.Qxb6626500a
open Go.RowKit

theorem dl_le (p : UInt8) (l : List UInt8) : (dl p l).length ≤ l.length := by
  induction l generalizing p with
  | nil => simp [dl]
  | cons x r ih =>
    have := ih x
    rw [dl, List.length_append, List.length_cons]
    split
    · simp; omega
    · split
      · split <;> simp <;> omega
      · simp; omega

theorem fs_some {p : UInt8} {l : List UInt8} {k : Nat} (h : fs p l = some k) : k < l.length ∧ l.getD k 0 = 37 := by
  induction l generalizing p k with
  | nil => simp [fs] at h
  | cons x r ih =>
    rw [fs] at h
    split at h
    · rename_i hx
      have : k = 0 := by simpa using h.symm
      subst this
      exact ⟨by simp, by simpa using hx.1⟩
    · cases hk : fs x r with
      | none => rw [hk] at h; simp at h
      | some m =>
        rw [hk] at h
        have : k = m + 1 := by simpa using h.symm
        subst this
        have := ih hk
        exact ⟨by simpa using this.1, by simpa using this.2⟩

theorem decB_size (s : ByteArray) (lo hi : Nat) (h : hi ≤ s.size) : (decB s lo hi).size ≤ s.size := by
  have h1 := dl_le (prevB s.data.toList lo) ((s.data.toList.take hi).drop lo)
  unfold decB decL
  rw [size_mk]
  rw [List.length_drop, List.length_take] at h1
  omega

theorem len_eq (s : ByteArray) : s.data.toList.length = s.size := by rw [Array.length_toList]; rfl

theorem decL_front (s : ByteArray) (k : Nat) : decL s.data.toList 0 k = dl 0 (s.data.toList.take k) := by
  unfold decL
  rw [List.drop_zero]
  rfl

theorem decL_all (s : ByteArray) : decL s.data.toList 0 s.size = dl 0 s.data.toList := by
  rw [decL_front, List.take_of_length_le (by rw [len_eq]; exact Nat.le_refl _)]

theorem decL_back (s : ByteArray) (k : Nat) (h : at_ s.data.toList k = 37) : decL s.data.toList (k + 1) s.size = dl 37 (s.data.toList.drop (k + 1)) := by
  unfold decL
  rw [List.take_of_length_le (by rw [len_eq]; exact Nat.le_refl _)]
  show dl (at_ s.data.toList k) _ = _
  rw [h]

theorem spl_none {s : ByteArray} (h : fs 0 s.data.toList = none) : splB1 s = decB s 0 s.size ∧ splB2 s = ⟨#[]⟩ := by
  unfold splB1 splB2 decB
  rw [splitR_eq, modelR, h, decL_all]
  exact ⟨rfl, rfl⟩

theorem spl_some {s : ByteArray} {k : Nat} (h : fs 0 s.data.toList = some k) : splB1 s = decB s 0 k ∧ splB2 s = endB (decB s (k + 1) s.size) := by
  have hk := fs_some h
  unfold splB1 splB2 endB decB
  rw [splitR_eq, modelR, h, decL_front, decL_back s k hk.2]
  exact ⟨rfl, rfl⟩

set_option maxHeartbeats 400000 in
theorem model7 (s : ByteArray) (w : World) (hs : s.size ≤ 2097152) :
    Calls Try.prog 7 #[.string s] w (Wrote w (.tuple #[.string (splB1 s), .string (splB2 s)])) := by
  have H : Hid (Calls Try.prog 9 #[.string s] w (Gave w (.int .i64 (fsI s.data.toList)))) := first9 s w hs
  cases hf : fs 0 s.data.toList with
  | none =>
    obtain ⟨e1, e2⟩ := spl_none hf
    rw [e1, e2]
    have ef : fsI s.data.toList = -1 := by unfold fsI; rw [hf]
    rw [ef] at H
    clear hf e1 e2 ef
    have HD : Hid (Calls Try.prog 10 #[.string s, .int .i64 0, .int .i64 s.size] w (Wrote w (.string (decB s 0 s.size)))) := dec10 s 0 s.size w hs (Nat.zero_le _) (Nat.le_refl _)
    go_enter Try.func7, Try.ntmps7
    go_wp2_with (go_at_call 9; refine H.out.mono ?_)
    rintro e w' ⟨rfl, rfl⟩
    clear H
    go_wp2_with (go_at_call 10; refine HD.out.mono ?_)
    rintro e w2 ⟨rfl, hb⟩
    have HB : Hid (Below w'.heap.size w' w2) := hb
    clear hb HD
    go_wp2_with fail
    go_ret2
    exact ⟨rfl, HB.out⟩
  | some k =>
    obtain ⟨e1, e2⟩ := spl_some hf
    rw [e1, e2]
    have hk := (fs_some hf).1
    rw [len_eq] at hk
    have ef : fsI s.data.toList = k := by unfold fsI; rw [hf]
    rw [ef] at H
    clear hf e1 e2 ef
    have HD : Hid (Calls Try.prog 10 #[.string s, .int .i64 0, .int .i64 k] w (Wrote w (.string (decB s 0 k)))) := dec10 s 0 k w hs (Nat.zero_le _) (by omega)
    have hsz := decB_size s (k + 1) s.size (Nat.le_refl _)
    go_enter Try.func7, Try.ntmps7
    go_wp2_with (go_at_call 9; refine H.out.mono ?_)
    rintro e w' ⟨rfl, rfl⟩
    clear H
    go_wp2_with (go_at_call 10; refine HD.out.mono ?_)
    rintro e w2 ⟨rfl, hb⟩
    have HB : Hid (Below w'.heap.size w' w2) := hb
    clear hb HD
    have HD2 : Hid (Calls Try.prog 10 #[.string s, .int .i64 ((k : Int) + 1), .int .i64 s.size] w2 (Wrote w2 (.string (decB s (k + 1) s.size)))) := dec10 s (k + 1) s.size w2 hs (by omega) (Nat.le_refl _)
    go_wp2_with (go_at_call 10; refine HD2.out.mono ?_)
    rintro e w3 ⟨rfl, hb⟩
    have HB3 : Hid (Below w'.heap.size w' w3) := HB.out.trans (hb.mono HB.out.size)
    clear hb HD2 HB
    have HE : Hid (Calls Try.prog 11 #[.string (decB s (k + 1) s.size)] w3 (Gave w3 (.string (endB (decB s (k + 1) s.size))))) := end11 _ w3 (by omega)
    go_wp2_with (go_at_call 11; refine HE.out.mono ?_)
    rintro e w4 ⟨rfl, hw4⟩
    subst hw4
    clear HE
    go_wp2_with fail
    go_ret2
    exact ⟨rfl, HB3.out⟩

/-- A bool comes back, the world as it was; a yes gives p. -/
def Told (w : World) (p : Prop) (e : Ending) (w' : World) : Prop :=
  ∃ r, e = .returned (.bool r) ∧ w' = w ∧ (r = true → p)

theorem Told.no (w : World) (p : Prop) : Told w p (.returned (.bool false)) w := ⟨false, rfl, rfl, by simp⟩
theorem Told.yes (w : World) {p : Prop} (h : p) : Told w p (.returned (.bool true)) w := ⟨true, rfl, rfl, fun _ => h⟩

theorem bytes5 (s : ByteArray) (w : World) (hs : s.size ≤ 9223372036854775807) : Calls Try.prog 5 #[.string s] w (Told w (Hid (s.size ≤ 1048576))) := by
  go_enter Try.func5, Try.ntmps5
  go_wp2_with fail
  · go_ret
    exact Told.no _ _
  · go_ret
    exact Told.yes _ (show s.size ≤ 1048576 by omega)

theorem bytes8 (s t : ByteArray) (w : World) (hs : s.size ≤ 9223372036854775807) (ht : t.size ≤ 9223372036854775807) : Calls Try.prog 8 #[.string s, .string t] w (Told w (Hid (s.size ≤ 1048576 ∧ t.size ≤ 1048576))) := by
  go_enter Try.func8, Try.ntmps8
  go_wp2_with fail
  · go_ret
    exact Told.no _ _
  · go_ret
    exact Told.no _ _
  · go_ret
    exact Told.no _ _
  · go_ret
    exact Told.yes _ (show s.size ≤ 1048576 ∧ t.size ≤ 1048576 by omega)

end Go.Proofs.Qxb6626500a
