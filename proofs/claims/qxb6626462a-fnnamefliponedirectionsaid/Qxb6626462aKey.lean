import Derived.Test.Qxb6626462aPaths
namespace Go.Proofs.Qxb6626462a
open Go.RowKit

/-- A new struct of three slices behind a pointer. -/
def Keyed (w : World) (n : Nat) (vd vn : Value) (e : Ending) (w' : World) : Prop :=
  ∃ b b2, e = .returned (.pointer (some ⟨b, 0, none⟩)) ∧ w.heap.size ≤ b ∧ b < w'.heap.size ∧ w'.cell? ⟨b, 0, none⟩ = some (.slice (some ⟨b2, 0, none⟩) n n) ∧
    w'.cell? ⟨b, 1, none⟩ = some vd ∧ w'.cell? ⟨b, 2, none⟩ = some vn ∧ Below w.heap.size w w'

set_option maxHeartbeats 400000 in
theorem key14 (w : World) (ap ad an : Option Addr) (n cp nd cd nn cn : Nat) (hn : n ≤ 1048576)
    (F : Nat → Value) (hA : At w w.heap.size ap n F) (hF : ∀ i, i < n → ∃ a l c, F i = .slice a l c) :
    Calls Try.prog 14 #[.slice ap n cp, .slice ad nd cd, .slice an nn cn] w (Keyed w n (.slice ad nd cd) (.slice an nn cn)) := by
  have hmk := run_make_row' (P := Try.prog) 35 39 (.slice none 0 0) 24 Try.underlying35 info39 rfl .i64 .i64 n (by omega) (by omega)
  go_enter Try.func14, Try.ntmps14
  go_wp2_with fail
  clear hmk
  go_loopw [8] (fun i wr => ∃ k : Nat, k ≤ n ∧ i = .int .i64 k ∧ SlRow wr w.heap.size 39 n ∧ Below w.heap.size w wr) (fun i _ => n - (intOf i).toNat)
  case atStart => exact ⟨0, Nat.zero_le _, rfl, SlRow.made _ _ _, (Below.refl _ _).alloc (Nat.le_refl _) _⟩
  case round =>
    obtain ⟨k, hk, rfl, hfil, hbel⟩ := hrel
    by_cases hlt : k < n
    · obtain ⟨b, o, rfl, hb, hcell⟩ := hA.pos hlt
      obtain ⟨a2, l2, c2, hFk⟩ := hF k hlt
      have hc : wr.cell? ⟨b, o + k, none⟩ = some (.slice a2 l2 c2) := (hbel.cell (p := ⟨b, o + k, none⟩) hb).trans ((hcell k hlt).trans (congrArg some hFk))
      obtain ⟨a3, l3, c3, hu⟩ := hfil.cell hlt
      have hf := hfil.frozen k
      have R : Hid (SlRow (wr.setCell ⟨w.heap.size, k, none⟩ (.slice a2 l2 c2)) w.heap.size 39 n) := hfil.set k a2 l2 c2
      have R2 : Hid (Below w.heap.size w (wr.setCell ⟨w.heap.size, k, none⟩ (.slice a2 l2 c2))) := hbel.setCell (Nat.le_refl _) _
      clear hfil hbel hcell hFk hF hA
      go_wp2_with fail
      go_roundw
      case rel => exact ⟨k + 1, by omega, by go_num, R.out, R2.out⟩
      case measure => simp [intOf]; omega
    · have R2 : Hid (Below w.heap.size w wr) := hbel
      have hlt' := hfil.lt
      clear hfil hbel hA hF
      go_wp2_with fail
      go_ret
      refine ⟨wr.heap.size, w.heap.size, rfl, by omega, by simp, ?_, ?_, ?_, R2.out.alloc (by omega) _⟩ <;> simp
end Go.Proofs.Qxb6626462a
