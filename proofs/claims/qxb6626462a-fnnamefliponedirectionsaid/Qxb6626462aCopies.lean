import Derived.Test.Qxb6626462aSize
import Derived.Deep.OwnRows
namespace Go.Proofs.Qxb6626462a
open Go.RowKit

theorem info9 : (Try.prog.info? 9).map (fun i => (i.zero, i.size, i.bytes)) = some (some (.string ⟨#[]⟩), 1, 16) := by kernel_rfl
theorem info4 : (Try.prog.info? 4).map (fun i => (i.zero, i.size, i.bytes)) = some (some (.bool false), 1, 1) := by kernel_rfl
theorem info24 : (Try.prog.info? 24).map (fun i => (i.zero, i.size, i.bytes)) = some (some (.slice none 0 0), 1, 24) := by kernel_rfl
theorem info39 : (Try.prog.info? 39).map (fun i => (i.zero, i.size, i.bytes)) = some (some (.slice none 0 0), 1, 24) := by kernel_rfl

/-- A slice that the call has made: nil, or the whole of a row of its own. -/
def Fresh (B : Nat) (w' : World) (E : TypeId) (n : Nat) (F : Nat → Value) (v : Value) : Prop :=
  (v = .slice none 0 0 ∧ n = 0) ∨ ∃ b, v = .slice (some ⟨b, 0, none⟩) n n ∧ B ≤ b ∧ w'.rowIs b E n F

def Copied (w : World) (E : TypeId) (n : Nat) (F : Nat → Value) (e : Ending) (w' : World) : Prop :=
  ∃ v, e = .returned v ∧ Fresh w.heap.size w' E n F v ∧ Below w.heap.size w w'

/-- A row of which the first k cells are filled. -/
def Filled (w : World) (b : Nat) (E : TypeId) (n : Nat) (F : Nat → Value) (k : Nat) : Prop :=
  ∃ G : Nat → Value, w.rowIs b E n G ∧ ∀ i, i < k → G i = F i

theorem Filled.step {w : World} {b : Nat} {E : TypeId} {n : Nat} {F : Nat → Value} {k : Nat} (h : Filled w b E n F k) :
    Filled (w.setCell ⟨b, k, none⟩ (F k)) b E n F (k + 1) := by
  obtain ⟨G, hr, hG⟩ := h
  refine ⟨_, hr.set k (F k), fun i hi => ?_⟩
  by_cases h : i = k
  · simp [h]
  · simp [h, hG i (by omega)]

theorem Filled.cell {w : World} {b : Nat} {E : TypeId} {n : Nat} {F : Nat → Value} {k : Nat} (h : Filled w b E n F k) {i : Nat} (hi : i < n) :
    ∃ u, w.cell? ⟨b, i, none⟩ = some u := by
  obtain ⟨G, hr, _⟩ := h
  exact ⟨_, hr.cell hi⟩

theorem Filled.frozen {w : World} {b : Nat} {E : TypeId} {n : Nat} {F : Nat → Value} {k : Nat} (h : Filled w b E n F k) (i : Nat) :
    w.frozen? ⟨b, i, none⟩ = false := by
  obtain ⟨G, hr, _⟩ := h
  exact hr.frozen i

theorem Filled.whole {w : World} {b : Nat} {E : TypeId} {n : Nat} {F : Nat → Value} (h : Filled w b E n F n) : w.rowIs b E n F := by
  obtain ⟨G, hr, hG⟩ := h
  exact hr.congr hG

theorem Filled.made (w : World) (z : Value) (n : Nat) (E : TypeId) (F : Nat → Value) : Filled (w.alloc (.cells (madeCells #[z] n) E)) w.heap.size E n F 0 :=
  ⟨_, World.rowIs_made w z n E, fun i hi => absurd hi (Nat.not_lt_zero i)⟩


set_option maxHeartbeats 400000 in
theorem copy9_some (w : World) (a : Addr) (n c : Nat) (F : Nat → ByteArray) (hn : n ≤ 1048576)
    (hA : At w w.heap.size (some a) n (fun i => .string (F i))) :
    Calls Try.prog 9 #[.slice (some a) n c] w (Copied w 9 n (fun i => .string (F i))) := by
  have hmk := run_make_row' (P := Try.prog) 24 9 (.string ⟨#[]⟩) 16 Try.underlying24 info9 rfl .i64 .i64 n (by omega) (by omega)
  have hnq := @Lib.run_eql_slice_nil Try.prog
  go_enter Try.func9, Try.ntmps9
  go_wp2_with fail
  clear hmk hnq
  go_loopw [4] (fun i wr => ∃ k : Nat, k ≤ n ∧ i = .int .i64 k ∧ Filled wr w.heap.size 9 n (fun i => .string (F i)) k ∧ Below w.heap.size w wr) (fun i _ => n - (intOf i).toNat)
  case atStart => exact ⟨0, Nat.zero_le _, rfl, Filled.made _ _ _ _ _, (Below.refl _ _).alloc (Nat.le_refl _) _⟩
  case round =>
    obtain ⟨k, hk, rfl, hfil, hbel⟩ := hrel
    by_cases hlt : k < n
    · obtain ⟨b, o, ha, hb, hcell⟩ := hA.pos hlt
      obtain rfl : a = ⟨b, o, none⟩ := by simpa using ha
      clear ha
      have hc : wr.cell? ⟨b, o + k, none⟩ = some (.string (F k)) := (hbel.cell (p := ⟨b, o + k, none⟩) hb).trans (hcell k hlt)
      obtain ⟨u, hu⟩ := hfil.cell hlt
      have hf := hfil.frozen k
      have R : Hid (Filled (wr.setCell ⟨w.heap.size, k, none⟩ (.string (F k))) w.heap.size 9 n (fun i => .string (F i)) (k + 1)) := hfil.step
      have R2 : Hid (Below w.heap.size w (wr.setCell ⟨w.heap.size, k, none⟩ (.string (F k)))) := hbel.setCell (Nat.le_refl _) _
      clear hcell hfil hbel hA
      go_wp2_with fail
      go_roundw
      case rel => exact ⟨k + 1, by omega, by go_num, R.out, R2.out⟩
      case measure => simp [intOf]; omega
    · obtain rfl : k = n := by omega
      have R : Hid (wr.rowIs w.heap.size 9 k (fun i => .string (F i))) := hfil.whole
      have R2 : Hid (Below w.heap.size w wr) := hbel
      clear hfil hbel hA
      go_wp2_with fail
      go_ret
      exact ⟨_, rfl, Or.inr ⟨_, rfl, Nat.le_refl _, R.out⟩, R2.out⟩

set_option maxHeartbeats 400000 in
theorem copy9 (w : World) (a : Option Addr) (n c : Nat) (F : Nat → ByteArray) (hn : n ≤ 1048576) (hnil : a = none → n = 0 ∧ c = 0)
    (hA : At w w.heap.size a n (fun i => .string (F i))) :
    Calls Try.prog 9 #[.slice a n c] w (Copied w 9 n (fun i => .string (F i))) := by
  cases a with
  | some a => exact copy9_some w a n c F hn hA
  | none =>
    obtain ⟨rfl, rfl⟩ := hnil rfl
    clear hnil hA
    have hnq := @Lib.run_eql_slice_nil Try.prog
    go_enter Try.func9, Try.ntmps9
    go_wp2_with fail
    go_ret
    exact ⟨_, rfl, Or.inl ⟨rfl, rfl⟩, Below.refl _ _⟩

set_option maxHeartbeats 400000 in
theorem copy8_some (w : World) (a : Addr) (n c : Nat) (F : Nat → Bool) (hn : n ≤ 1048576)
    (hA : At w w.heap.size (some a) n (fun i => .bool (F i))) :
    Calls Try.prog 8 #[.slice (some a) n c] w (Copied w 4 n (fun i => .bool (F i))) := by
  have hmk := run_make_row' (P := Try.prog) 23 4 (.bool false) 1 Try.underlying23 info4 rfl .i64 .i64 n (by omega) (by omega)
  have hnq := @Lib.run_eql_slice_nil Try.prog
  go_enter Try.func8, Try.ntmps8
  go_wp2_with fail
  clear hmk hnq
  go_loopw [4] (fun i wr => ∃ k : Nat, k ≤ n ∧ i = .int .i64 k ∧ Filled wr w.heap.size 4 n (fun i => .bool (F i)) k ∧ Below w.heap.size w wr) (fun i _ => n - (intOf i).toNat)
  case atStart => exact ⟨0, Nat.zero_le _, rfl, Filled.made _ _ _ _ _, (Below.refl _ _).alloc (Nat.le_refl _) _⟩
  case round =>
    obtain ⟨k, hk, rfl, hfil, hbel⟩ := hrel
    by_cases hlt : k < n
    · obtain ⟨b, o, ha, hb, hcell⟩ := hA.pos hlt
      obtain rfl : a = ⟨b, o, none⟩ := by simpa using ha
      clear ha
      have hc : wr.cell? ⟨b, o + k, none⟩ = some (.bool (F k)) := (hbel.cell (p := ⟨b, o + k, none⟩) hb).trans (hcell k hlt)
      obtain ⟨u, hu⟩ := hfil.cell hlt
      have hf := hfil.frozen k
      have R : Hid (Filled (wr.setCell ⟨w.heap.size, k, none⟩ (.bool (F k))) w.heap.size 4 n (fun i => .bool (F i)) (k + 1)) := hfil.step
      have R2 : Hid (Below w.heap.size w (wr.setCell ⟨w.heap.size, k, none⟩ (.bool (F k)))) := hbel.setCell (Nat.le_refl _) _
      clear hcell hfil hbel hA
      go_wp2_with fail
      go_roundw
      case rel => exact ⟨k + 1, by omega, by go_num, R.out, R2.out⟩
      case measure => simp [intOf]; omega
    · obtain rfl : k = n := by omega
      have R : Hid (wr.rowIs w.heap.size 4 k (fun i => .bool (F i))) := hfil.whole
      have R2 : Hid (Below w.heap.size w wr) := hbel
      clear hfil hbel hA
      go_wp2_with fail
      go_ret
      exact ⟨_, rfl, Or.inr ⟨_, rfl, Nat.le_refl _, R.out⟩, R2.out⟩

set_option maxHeartbeats 400000 in
theorem copy8 (w : World) (a : Option Addr) (n c : Nat) (F : Nat → Bool) (hn : n ≤ 1048576) (hnil : a = none → n = 0 ∧ c = 0)
    (hA : At w w.heap.size a n (fun i => .bool (F i))) :
    Calls Try.prog 8 #[.slice a n c] w (Copied w 4 n (fun i => .bool (F i))) := by
  cases a with
  | some a => exact copy8_some w a n c F hn hA
  | none =>
    obtain ⟨rfl, rfl⟩ := hnil rfl
    clear hnil hA
    have hnq := @Lib.run_eql_slice_nil Try.prog
    go_enter Try.func8, Try.ntmps8
    go_wp2_with fail
    go_ret
    exact ⟨_, rfl, Or.inl ⟨rfl, rfl⟩, Below.refl _ _⟩

end Go.Proofs.Qxb6626462a
