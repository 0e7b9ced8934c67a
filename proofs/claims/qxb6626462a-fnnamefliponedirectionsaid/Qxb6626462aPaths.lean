import Derived.Test.Qxb6626462aCopies
namespace Go.Proofs.Qxb6626462a
open Go.RowKit

theorem At.below {w w' : World} {a : Option Addr} {n : Nat} {F : Nat → Value} {B : Nat} (h : At w B a n F) (hb : Below B w w') (hB : B ≤ w'.heap.size) : At w' w'.heap.size a n F := by
  rcases h with h | ⟨b, o, ha, hlt, hc⟩
  · exact Or.inl h
  · exact Or.inr ⟨b, o, ha, by omega, fun i hi => (hb.cell (p := ⟨b, o + i, none⟩) hlt).trans (hc i hi)⟩

/-- A row of slices (type 24 or 39), whatever they are. -/
def SlRow (w : World) (b : Nat) (E : TypeId) (n : Nat) : Prop :=
  ∃ G : Nat → Value, w.rowIs b E n G ∧ ∀ i, i < n → ∃ a l c, G i = .slice a l c

theorem SlRow.made (w : World) (n : Nat) (E : TypeId) : SlRow (w.alloc (.cells (madeCells #[.slice none 0 0] n) E)) w.heap.size E n :=
  ⟨_, World.rowIs_made w _ n E, fun _ _ => ⟨_, _, _, rfl⟩⟩

theorem SlRow.lt {w : World} {b : Nat} {E : TypeId} {n : Nat} (h : SlRow w b E n) : b < w.heap.size := h.elim fun _ h => h.1.lt

theorem SlRow.below {w w' : World} {b : Nat} {E : TypeId} {n B : Nat} (h : SlRow w b E n) (hb : Below B w w') (hB : b < B) : SlRow w' b E n := by
  obtain ⟨G, hr, hG⟩ := h
  exact ⟨G, hr.of_block (hb.block b hB), hG⟩

theorem SlRow.cell {w : World} {b : Nat} {E : TypeId} {n : Nat} (h : SlRow w b E n) {i : Nat} (hi : i < n) : ∃ a l c, w.cell? ⟨b, i, none⟩ = some (.slice a l c) := by
  obtain ⟨G, hr, hG⟩ := h
  obtain ⟨a, l, c, hg⟩ := hG i hi
  exact ⟨a, l, c, by rw [hr.cell hi, hg]⟩

theorem SlRow.frozen {w : World} {b : Nat} {E : TypeId} {n : Nat} (h : SlRow w b E n) (i : Nat) : w.frozen? ⟨b, i, none⟩ = false := h.elim fun _ h => h.1.frozen i

theorem SlRow.set {w : World} {b : Nat} {E : TypeId} {n : Nat} (h : SlRow w b E n) (i : Nat) (a : Option Addr) (l c : Nat) : SlRow (w.setCell ⟨b, i, none⟩ (.slice a l c)) b E n := by
  obtain ⟨G, hr, hG⟩ := h
  refine ⟨_, hr.set i _, fun j hj => ?_⟩
  by_cases h : j = i
  · exact ⟨a, l, c, by simp [h]⟩
  · obtain ⟨a', l', c', hg⟩ := hG j hj
    exact ⟨a', l', c', by simp [h, hg]⟩

theorem Fresh.form {B : Nat} {w : World} {E : TypeId} {n : Nat} {F : Nat → Value} {v : Value} (h : Fresh B w E n F v) : ∃ a l c, v = .slice a l c := by
  rcases h with h | ⟨b, h, _⟩
  · exact ⟨_, _, _, h.1⟩
  · exact ⟨_, _, _, h⟩

def CopiedPaths (w : World) (n : Nat) (e : Ending) (w' : World) : Prop :=
  ∃ v, e = .returned v ∧ ((v = .slice none 0 0 ∧ n = 0) ∨ ∃ b, v = .slice (some ⟨b, 0, none⟩) n n ∧ w.heap.size ≤ b ∧ SlRow w' b 24 n) ∧ Below w.heap.size w w'

set_option maxHeartbeats 400000 in
theorem copy7_some (w : World) (a : Addr) (n c : Nat) (PA : Nat → Option Addr) (PL PC : Nat → Nat) (PS : Nat → Nat → ByteArray) (hn : n ≤ 1048576)
    (hA : At w w.heap.size (some a) n (fun i => .slice (PA i) (PL i) (PC i)))
    (hI : ∀ i, i < n → PL i ≤ 1048576 ∧ (PA i = none → PL i = 0 ∧ PC i = 0) ∧ At w w.heap.size (PA i) (PL i) (fun j => .string (PS i j))) :
    Calls Try.prog 7 #[.slice (some a) n c] w (CopiedPaths w n) := by
  have hmk := run_make_row' (P := Try.prog) 22 24 (.slice none 0 0) 24 Try.underlying22 info24 rfl .i64 .i64 n (by omega) (by omega)
  have hnq := @Lib.run_eql_slice_nil Try.prog
  go_enter Try.func7, Try.ntmps7
  go_wp2_with fail
  clear hmk hnq
  go_loopw [4] (fun i wr => ∃ k : Nat, k ≤ n ∧ i = .int .i64 k ∧ SlRow wr w.heap.size 24 n ∧ Below w.heap.size w wr) (fun i _ => n - (intOf i).toNat)
  case atStart => exact ⟨0, Nat.zero_le _, rfl, SlRow.made _ _ _, (Below.refl _ _).alloc (Nat.le_refl _) _⟩
  case round =>
    obtain ⟨k, hk, rfl, hfil, hbel⟩ := hrel
    by_cases hlt : k < n
    · obtain ⟨b, o, ha, hb, hcell⟩ := hA.pos hlt
      obtain rfl : a = ⟨b, o, none⟩ := by simpa using ha
      clear ha
      have hc : wr.cell? ⟨b, o + k, none⟩ = some (.slice (PA k) (PL k) (PC k)) := (hbel.cell (p := ⟨b, o + k, none⟩) hb).trans (hcell k hlt)
      obtain ⟨hpl, hpn, hpa⟩ := hI k hlt
      have hcp := copy9 wr (PA k) (PL k) (PC k) (PS k) hpl hpn (hpa.below hbel hbel.size)
      have HC : Hid (Calls Try.prog 9 #[.slice (PA k) (PL k) (PC k)] wr (Copied wr 9 (PL k) (fun i => .string (PS k i)))) := hcp
      clear hcell hA hI hpn hpa hcp
      go_wp2_with (go_at_call 9; refine HC.out.mono ?_)
      rintro e w2 ⟨v, rfl, hfr, hb2⟩
      obtain ⟨a2, l2, c2, rfl⟩ := hfr.form
      clear hfr HC hc
      have hlt0 := hfil.lt
      have hfil2 := hfil.below hb2 hlt0
      obtain ⟨a3, l3, c3, hu⟩ := hfil2.cell hlt
      have hf := hfil2.frozen k
      have R : Hid (SlRow (w2.setCell ⟨w.heap.size, k, none⟩ (.slice a2 l2 c2)) w.heap.size 24 n) := hfil2.set k a2 l2 c2
      have R2 : Hid (Below w.heap.size w (w2.setCell ⟨w.heap.size, k, none⟩ (.slice a2 l2 c2))) := (hbel.trans (hb2.mono hbel.size)).setCell (Nat.le_refl _) _
      clear hfil hfil2 hbel hb2 hlt0
      go_wp2_with fail
      go_roundw
      case rel => exact ⟨k + 1, by omega, by go_num, R.out, R2.out⟩
      case measure => simp [intOf]; omega
    · have R : Hid (SlRow wr w.heap.size 24 n) := hfil
      have R2 : Hid (Below w.heap.size w wr) := hbel
      clear hfil hbel hA hI
      go_wp2_with fail
      go_ret
      exact ⟨_, rfl, Or.inr ⟨_, rfl, Nat.le_refl _, R.out⟩, R2.out⟩

set_option maxHeartbeats 400000 in
theorem copy7 (w : World) (a : Option Addr) (n c : Nat) (PA : Nat → Option Addr) (PL PC : Nat → Nat) (PS : Nat → Nat → ByteArray) (hn : n ≤ 1048576) (hnil : a = none → n = 0 ∧ c = 0)
    (hA : At w w.heap.size a n (fun i => .slice (PA i) (PL i) (PC i)))
    (hI : ∀ i, i < n → PL i ≤ 1048576 ∧ (PA i = none → PL i = 0 ∧ PC i = 0) ∧ At w w.heap.size (PA i) (PL i) (fun j => .string (PS i j))) :
    Calls Try.prog 7 #[.slice a n c] w (CopiedPaths w n) := by
  cases a with
  | some a => exact copy7_some w a n c PA PL PC PS hn hA hI
  | none =>
    obtain ⟨rfl, rfl⟩ := hnil rfl
    clear hnil hA hI
    have hnq := @Lib.run_eql_slice_nil Try.prog
    go_enter Try.func7, Try.ntmps7
    go_wp2_with fail
    go_ret
    exact ⟨_, rfl, Or.inl ⟨rfl, rfl⟩, Below.refl _ _⟩

end Go.Proofs.Qxb6626462a
