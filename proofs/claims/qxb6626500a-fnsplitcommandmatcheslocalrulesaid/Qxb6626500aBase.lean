import Derived.Test.Qxb6626500aRows
import Derived.Test.Qxb6626500aPlain
import Derived.Test.Qxb6626500aShelf
import Derived.WalkKit
import Derived.WalkSpells
import Derived.WalkLawsBesides
namespace Go.Proofs.Qxb6626500a
open Go.RowKit

/-- The byte at i (0 behind the end), and its left neighbour (0 ahead of the first). -/
def at_ (l : List UInt8) (i : Nat) : UInt8 := l.getD i 0
def prevB (l : List UInt8) : Nat → UInt8
  | 0 => 0
  | i + 1 => at_ l i

def sepAt (l : List UInt8) (i : Nat) : Bool := decide (at_ l i = 37 ∧ prevB l i ≠ 92)

theorem at_eq (s : ByteArray) (i : Nat) (h : i < s.size) : s[i] = at_ s.data.toList i := by
  unfold at_
  rw [List.getD_eq_getElem?_getD, Array.getElem?_toList]
  have h' : i < s.data.size := h
  rw [Array.getElem?_eq_getElem h']
  rfl

theorem b37 (x : UInt8) : ((x.toNat : Int) = 37) ↔ x = 37 := by
  rw [← UInt8.toNat_inj]
  show _ ↔ x.toNat = 37
  omega

theorem b92 (x : UInt8) : ((x.toNat : Int) = 92) ↔ x = 92 := by
  rw [← UInt8.toNat_inj]
  show _ ↔ x.toNat = 92
  omega

theorem b10 (x : UInt8) : ((x.toNat : Int) = 10) ↔ x = 10 := by
  rw [← UInt8.toNat_inj]
  show _ ↔ x.toNat = 10
  omega

def Gave (w : World) (v : Value) (e : Ending) (w' : World) : Prop := e = .returned v ∧ w' = w

set_option maxHeartbeats 400000 in
theorem sep16 (s : ByteArray) (k : Nat) (w : World) (hs : s.size ≤ 2097152) (hk : k < s.size) :
    Calls Try.prog 16 #[.string s, .int .i64 k] w (Gave w (.bool (sepAt s.data.toList k))) := by
  have e1 := at_eq s k hk
  by_cases h1 : s[k] = 37
  · have t1 : (s[k].toNat : Int) = 37 := (b37 _).2 h1
    cases k with
    | zero =>
      have fin : sepAt s.data.toList 0 = true := by simp [sepAt, prevB, ← e1, h1]
      rw [fin]
      clear fin e1 h1
      go_enter Try.func16, Try.ntmps16
      go_wp2_with fail
      go_ret
      exact ⟨rfl, rfl⟩
    | succ k =>
      have e2 := at_eq s k (by omega)
      have fin : sepAt s.data.toList (k + 1) = ((s[k].toNat : Int) != 92) := by
        rw [Bool.eq_iff_iff]
        simp [sepAt, prevB, ← e1, h1, ← e2, ← b92]
      rw [fin]
      clear fin e1 e2 h1
      go_enter Try.func16, Try.ntmps16
      go_wp2_with fail
      go_ret
      exact ⟨rfl, rfl⟩
  · have t1 : ((s[k].toNat : Int) == 37) = false := beq_eq_false_iff_ne.2 (fun h => h1 ((b37 _).1 h))
    have fin : sepAt s.data.toList k = false := by simp [sepAt, ← e1, h1]
    rw [fin]
    clear fin e1 h1
    go_enter Try.func16, Try.ntmps16
    go_wp2_with fail
    go_ret
    exact ⟨rfl, rfl⟩
end Go.Proofs.Qxb6626500a
