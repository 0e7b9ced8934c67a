import Derived.Test.Qxb6626500aBase
namespace Go.Proofs.Qxb6626500a
open Go.RowKit

def fsI (l : List UInt8) : Int := match fs 0 l with | none => -1 | some k => k

theorem drop_at (s : ByteArray) (k : Nat) (h : k < s.size) : s.data.toList.drop k = at_ s.data.toList k :: s.data.toList.drop (k + 1) := by
  have h' : k < s.data.toList.length := by rw [Array.length_toList]; exact h
  rw [List.drop_eq_getElem_cons h']
  congr 1
  unfold at_
  rw [List.getD_eq_getElem?_getD, List.getElem?_eq_getElem h']
  rfl

theorem drop_end (s : ByteArray) (k : Nat) (h : s.size ≤ k) : s.data.toList.drop k = [] := by
  apply List.drop_eq_nil_of_le
  rw [Array.length_toList]
  exact h

/-- The search from k on. -/
def From (l : List UInt8) (k : Nat) : Prop := fs 0 l = (fs (prevB l k) (l.drop k)).map (· + k)

theorem From.start (l : List UInt8) : From l 0 := by
  unfold From
  simp [prevB]

theorem From.no {s : ByteArray} {k : Nat} (h : From s.data.toList k) (hk : k < s.size) (hn : sepAt s.data.toList k = false) : From s.data.toList (k + 1) := by
  unfold From at h ⊢
  rw [h, drop_at s k hk, fs, if_neg (by simpa [sepAt] using hn)]
  show _ = ((fs (at_ s.data.toList k) _).map _)
  cases fs (at_ s.data.toList k) (s.data.toList.drop (k + 1)) with
  | none => rfl
  | some m => simp; omega

theorem From.yes {s : ByteArray} {k : Nat} (h : From s.data.toList k) (hk : k < s.size) (hn : sepAt s.data.toList k = true) : fsI s.data.toList = k := by
  unfold From at h
  rw [drop_at s k hk, fs, if_pos (by simpa [sepAt] using hn)] at h
  unfold fsI
  rw [h]
  simp

theorem From.none {s : ByteArray} {k : Nat} (h : From s.data.toList k) (hk : s.size ≤ k) : fsI s.data.toList = -1 := by
  unfold From at h
  rw [drop_end s k hk] at h
  unfold fsI
  rw [h]
  rfl

set_option maxHeartbeats 400000 in
theorem first9 (s : ByteArray) (w : World) (hs : s.size ≤ 2097152) :
    Calls Try.prog 9 #[.string s] w (Gave w (.int .i64 (fsI s.data.toList))) := by
  go_enter Try.func9, Try.ntmps9
  go_wp2_with fail
  go_loop [3] (fun i => ∃ k : Nat, k ≤ s.size ∧ i = .int .i64 k ∧ From s.data.toList k) (fun i => s.size - (intOf i).toNat)
  case atStart => exact ⟨0, Nat.zero_le _, rfl, From.start _⟩
  case round =>
    obtain ⟨k, hk, rfl, hF⟩ := hrel
    by_cases hlt : k < s.size
    · have H : Hid (Calls Try.prog 16 #[.string s, .int .i64 k] w (Gave w (.bool (sepAt s.data.toList k)))) := sep16 s k w hs hlt
      have HF : Hid (From s.data.toList k) := hF
      clear hF
      go_wp2_with (go_at_call 16; refine H.out.mono ?_)
      rintro e w' ⟨rfl, rfl⟩
      clear H
      rcases (show sepAt s.data.toList k = false ∨ sepAt s.data.toList k = true from by cases sepAt s.data.toList k <;> simp) with h | h
      · have R : Hid (From s.data.toList (k + 1)) := HF.out.no hlt h
        rw [h]
        clear h HF
        go_wp2_with fail
        go_round
        case rel => exact ⟨k + 1, by omega, by go_num, R.out⟩
        case measure => simp [intOf]; omega
      · have R : Hid (fsI s.data.toList = k) := HF.out.yes hlt h
        rw [h]
        clear h HF
        go_wp2_with fail
        go_ret
        exact ⟨by rw [R.out]; rfl, rfl⟩
    · have R : Hid (fsI s.data.toList = -1) := hF.none (by omega)
      clear hF
      go_wp2_with fail
      go_ret
      exact ⟨by rw [R.out]; rfl, rfl⟩

theorem last_at (s : ByteArray) (h : 0 < s.size) : s.data.toList.getLast? = some s[s.size - 1] := by
  rw [List.getLast?_eq_getElem?, Array.length_toList, Array.getElem?_toList]
  have h' : s.data.size - 1 < s.data.size := by have : s.data.size = s.size := rfl; omega
  rw [Array.getElem?_eq_getElem h']
  rfl

theorem nil_of (s : ByteArray) (h : s.size = 0) : s.data.toList = [] := by
  apply List.eq_nil_of_length_eq_zero
  rw [Array.length_toList]
  exact h

theorem bytes_ext {a b : ByteArray} (h : a.data.toList = b.data.toList) : a = b := by
  cases a; cases b
  simp only at h
  exact congrArg ByteArray.mk (Array.toList_inj.1 h)

def endB (s : ByteArray) : ByteArray := ⟨(endL s.data.toList).toArray⟩

set_option maxHeartbeats 400000 in
theorem end11 (s : ByteArray) (w : World) (hs : s.size ≤ 4194304) : Calls Try.prog 11 #[.string s] w (Gave w (.string (endB s))) := by
  by_cases h0 : 0 < s.size
  · by_cases h1 : s[s.size - 1] = 10
    · have t1 : ((s[s.size - 1].toNat : Int) != 10) = false := by rw [bne_eq_false_iff_eq]; exact (b10 _).2 h1
      have fin : endB s = s := by
        apply bytes_ext
        unfold endB endL
        rw [last_at s h0, h1]
        simp
      rw [fin]
      clear fin h1
      go_enter Try.func11, Try.ntmps11
      go_wp2_with fail
      go_ret
      exact ⟨rfl, rfl⟩
    · have t1 : ((s[s.size - 1].toNat : Int) != 10) = true := by rw [bne_iff_ne]; exact fun h => h1 ((b10 _).1 h)
      have fin : endB s = s ++ ⟨#[10]⟩ := by
        apply bytes_ext
        unfold endB endL
        have hne : s.data.toList ≠ [] := by
          intro h
          have h2 := congrArg List.length h
          rw [Array.length_toList] at h2
          have h3 : s.data.size = s.size := rfl
          rw [h3, List.length_nil] at h2
          omega
        rw [last_at s h0, if_pos ⟨hne, by simpa using h1⟩]
        simp [ByteArray.data_append]
      rw [fin]
      clear fin h1
      go_enter Try.func11, Try.ntmps11
      go_wp2_with fail
      go_ret
      exact ⟨rfl, rfl⟩
  · have fin : endB s = s := by
      apply bytes_ext
      unfold endB endL
      rw [nil_of s (by omega)]
      simp
    rw [fin]
    clear fin
    go_enter Try.func11, Try.ntmps11
    go_wp2_with fail
    go_ret
    exact ⟨rfl, rfl⟩

end Go.Proofs.Qxb6626500a
