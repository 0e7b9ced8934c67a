import Derived.Test.Qxb6627192aSize
import Derived.Deep.OwnRows
namespace Go.Proofs.Qxb6627192a
open Go.RowKit

theorem info35 : (Try.prog.info? 35).map (fun i => (i.zero, i.size, i.bytes)) = some (some (.agg #[.string ⟨#[]⟩, .string ⟨#[]⟩, .pointer none, .string ⟨#[]⟩, .string ⟨#[]⟩, .bool false, .string ⟨#[]⟩]), 7, 96) := by kernel_rfl

/-- Cell f of a column. -/
def Col.cell (c : Col) : Nat → Value
  | 0 => .string c.nm
  | 1 => .string c.ty
  | 2 => .pointer c.nl
  | 3 => .string c.df
  | 4 => .string c.idn
  | 5 => .bool c.pk
  | _ => .string c.rf

def zeroCol : Col := ⟨⟨#[]⟩, ⟨#[]⟩, none, ⟨#[]⟩, ⟨#[]⟩, false, ⟨#[]⟩⟩

/-- Block b is a row of n columns, none frozen. -/
def DefRow (w : World) (b n : Nat) (G : Nat → Col) : Prop := w.rowIs b 35 (n * 7) (fun x => (G (x / 7)).cell (x % 7))

theorem DefRow.made (w : World) (n : Nat) : DefRow (w.alloc (.cells (madeCells (Value.agg #[.string ⟨#[]⟩, .string ⟨#[]⟩, .pointer none, .string ⟨#[]⟩, .string ⟨#[]⟩, .bool false, .string ⟨#[]⟩]).cells (n * 7)) 35)) w.heap.size n (fun _ => zeroCol) := by
  have h := World.rowIs_alloc w (madeCells (Value.agg #[.string ⟨#[]⟩, .string ⟨#[]⟩, .pointer none, .string ⟨#[]⟩, .string ⟨#[]⟩, .bool false, .string ⟨#[]⟩]).cells (n * 7)) 35 (fun x => zeroCol.cell (x % 7)) (fun i hi => by
    rw [size_madeCells] at hi
    have h7 : i % 7 < 7 := Nat.mod_lt _ (by decide)
    have e : (madeCells (Value.agg #[.string ⟨#[]⟩, .string ⟨#[]⟩, .pointer none, .string ⟨#[]⟩, .string ⟨#[]⟩, .bool false, .string ⟨#[]⟩]).cells (n * 7))[i]? = some ((Value.agg #[.string ⟨#[]⟩, .string ⟨#[]⟩, .pointer none, .string ⟨#[]⟩, .string ⟨#[]⟩, .bool false, .string ⟨#[]⟩]).cells[i % 7]!) := by
      unfold madeCells
      rw [Array.getElem?_map, Array.getElem?_range, if_pos hi]
      rfl
    rw [e]
    generalize i % 7 = m at h7
    match m, h7 with
    | 0, _ => rfl
    | 1, _ => rfl
    | 2, _ => rfl
    | 3, _ => rfl
    | 4, _ => rfl
    | 5, _ => rfl
    | 6, _ => rfl)
  rw [size_madeCells] at h
  exact h

theorem DefRow.col {w : World} {b n : Nat} {G : Nat → Col} (h : DefRow w b n G) {i : Nat} (hi : i < n) : ColAt w b (i * 7) (G i) := by
  have hc : ∀ f, f < 7 → w.cell? ⟨b, i * 7 + f, none⟩ = some ((G i).cell f) := by
    intro f hf
    have h1 := World.rowIs.cell h (i := i * 7 + f) (by omega)
    have h2 : (i * 7 + f) / 7 = i := by omega
    have h3 : (i * 7 + f) % 7 = f := by omega
    simp only [h2, h3] at h1
    exact h1
  exact ⟨hc 0 (by omega), hc 1 (by omega), hc 2 (by omega), hc 3 (by omega), hc 4 (by omega), hc 5 (by omega), hc 6 (by omega)⟩

theorem DefRow.frozen {w : World} {b n : Nat} {G : Nat → Col} (h : DefRow w b n G) (i : Nat) : w.frozen? ⟨b, i, none⟩ = false := World.rowIs.frozen h i
theorem DefRow.lt {w : World} {b n : Nat} {G : Nat → Col} (h : DefRow w b n G) : b < w.heap.size := World.rowIs.lt h
theorem DefRow.alloc {w : World} {b n : Nat} {G : Nat → Col} (h : DefRow w b n G) (o : Obj) : DefRow (w.alloc o) b n G := World.rowIs.alloc h o

/-- The seven cells of a column stored at ⟨b, o⟩. -/
def put7 (w : World) (b o : Nat) (c : Col) : World :=
  ((((((w.setCell ⟨b, o, none⟩ (.string c.nm)).setCell ⟨b, o + 1, none⟩ (.string c.ty)).setCell ⟨b, o + 2, none⟩ (.pointer c.nl)).setCell ⟨b, o + 3, none⟩ (.string c.df)).setCell ⟨b, o + 4, none⟩ (.string c.idn)).setCell ⟨b, o + 5, none⟩ (.bool c.pk)).setCell ⟨b, o + 6, none⟩ (.string c.rf)

theorem DefRow.put {w : World} {b n : Nat} {G : Nat → Col} (h : DefRow w b n G) (i : Nat) (c : Col) : DefRow (put7 w b (i * 7) c) b n (fun j => if j = i then c else G j) := by
  unfold DefRow at h ⊢
  have h1 := (((((((World.rowIs.set h (i * 7) (.string c.nm)).set (i * 7 + 1) (.string c.ty)).set (i * 7 + 2) (.pointer c.nl)).set (i * 7 + 3) (.string c.df)).set (i * 7 + 4) (.string c.idn)).set (i * 7 + 5) (.bool c.pk)).set (i * 7 + 6) (.string c.rf))
  refine World.rowIs.congr h1 (fun x _ => ?_)
  show _ = (if x / 7 = i then c else G (x / 7)).cell (x % 7)
  by_cases e : x / 7 = i
  · have h7 : x % 7 < 7 := Nat.mod_lt _ (by decide)
    have hx : x = i * 7 + x % 7 := by omega
    rw [if_pos e]
    generalize x % 7 = m at h7 hx
    subst hx
    match m, h7 with
    | 0, _ => simp [Col.cell]
    | 1, _ => simp [Col.cell]
    | 2, _ => simp [Col.cell]
    | 3, _ => simp [Col.cell]
    | 4, _ => simp [Col.cell]
    | 5, _ => simp [Col.cell]
    | 6, _ => simp [Col.cell]
  · rw [if_neg e, if_neg (by omega), if_neg (by omega), if_neg (by omega), if_neg (by omega), if_neg (by omega), if_neg (by omega), if_neg (by omega)]

theorem below_put7 {B : Nat} {a w : World} (h : Below B a w) {b : Nat} (hb : B ≤ b) (o : Nat) (c : Col) : Below B a (put7 w b o c) := by
  unfold put7
  exact ((((((h.setCell hb _).setCell hb _).setCell hb _).setCell hb _).setCell hb _).setCell hb _).setCell hb _

theorem size_put7 (w : World) (b o : Nat) (c : Col) : (put7 w b o c).heap.size = w.heap.size := by simp [put7]

theorem below_two {B : Nat} {a w : World} (h : Below B a w) (hB : B ≤ w.heap.size) (o1 o2 : Obj) : Below B a ((w.alloc o1).alloc o2) :=
  (h.alloc hB o1).alloc (by simp; omega) o2

def Defd (w : World) (n : Nat) (C : Nat → Col) (e : Ending) (w' : World) : Prop :=
  ∃ b G, e = .returned (.slice (some ⟨b, 0, none⟩) n n) ∧ w.heap.size ≤ b ∧ DefRow w' b n G ∧ (∀ i, i < n → (G i).rf = (C i).rf) ∧ Below w.heap.size w w'

theorem step_rf {k : Nat} {G C : Nat → Col} {c : Col} (h : ∀ i, i < k → (G i).rf = (C i).rf) (hc : c.rf = (C k).rf := by rfl) : ∀ i, i < k + 1 → (if i = k then c else G i).rf = (C i).rf := by
  intro i hi
  by_cases e : i = k
  · rw [if_pos e, hc, e]
  · rw [if_neg e]
    exact h i (by omega)

set_option maxRecDepth 100000 in
set_option maxHeartbeats 1000000 in
theorem defs7 (w : World) (a : Option Addr) (n c : Nat) (C : Nat → Col) (hC : Cols w w.heap.size a n C) (hn : n ≤ 1048576)
    (hN : ∀ i, i < n → (C i).nl = none ∨ ∃ b o v, (C i).nl = some ⟨b, o, none⟩ ∧ b < w.heap.size ∧ w.cell? ⟨b, o, none⟩ = some (.bool v)) :
    Calls Try.prog 7 #[.slice a n c] w (Defd w n C) := by
  obtain ⟨i0, hi0, hz0, hz1, hz2⟩ := info_parts info35
  have hmk : ∀ w, (Instr.makeSlice 25 (.int .i64 n) (.int .i64 n)).run Try.prog w = .ok (.slice (some ⟨w.heap.size, 0, none⟩) n n) (w.alloc (.cells (madeCells (Value.agg #[.string ⟨#[]⟩, .string ⟨#[]⟩, .pointer none, .string ⟨#[]⟩, .string ⟨#[]⟩, .bool false, .string ⟨#[]⟩]).cells (n * 7)) 35)) := by
    intro w
    have := run_make (P := Try.prog) w 25 35 i0 _ Try.underlying25 hi0 hz0 .i64 .i64 n n (by omega) (Int.le_refl _) (by rw [hz2]; omega) (by omega)
    rw [hz1] at this
    exact this
  have HC : Hid (Cols w w.heap.size a n C) := hC
  have HN : Hid (∀ i, i < n → (C i).nl = none ∨ ∃ b o v, (C i).nl = some ⟨b, o, none⟩ ∧ b < w.heap.size ∧ w.cell? ⟨b, o, none⟩ = some (.bool v)) := hN
  clear hC hN hi0 hz0 hz1 hz2
  go_enter Try.func7, Try.ntmps7
  go_wp2_with fail
  clear hmk
  go_loopw [4] (fun i wr => ∃ (k : Nat) (G : Nat → Col), k ≤ n ∧ i = .int .i64 k ∧ DefRow wr w.heap.size n G ∧ (∀ i, i < k → (G i).rf = (C i).rf) ∧ Below w.heap.size w wr) (fun i _ => n - (intOf i).toNat)
  case atStart => exact ⟨0, _, Nat.zero_le _, rfl, DefRow.made w n, fun i hi => absurd hi (Nat.not_lt_zero i), (Below.refl _ _).alloc (Nat.le_refl _) _⟩
  case round =>
    obtain ⟨k, G, hk, rfl, hrow, hG, hbel⟩ := hrel
    by_cases hlt : k < n
    · obtain ⟨b, o, ha, hb, hcell⟩ := HC.out.pos hlt
      have hN := HN.out k hlt
      obtain ⟨c0, c1, c2, c3, c4, c5, c6⟩ := (hcell k hlt).below hbel hb
      obtain ⟨d0, d1, d2, d3, d4, d5, d6⟩ := hrow.col hlt
      have f0 := hrow.frozen (k * 7)
      have f1 := hrow.frozen (k * 7 + 1)
      have f2 := hrow.frozen (k * 7 + 2)
      have f3 := hrow.frozen (k * 7 + 3)
      have f4 := hrow.frozen (k * 7 + 4)
      have f5 := hrow.frozen (k * 7 + 5)
      have f6 := hrow.frozen (k * 7 + 6)
      have hlr := hrow.lt
      have HR : Hid (DefRow wr w.heap.size n G) := hrow
      have HG : Hid (∀ i, i < k → (G i).rf = (C i).rf) := hG
      have HB : Hid (Below w.heap.size w wr) := hbel
      subst ha
      clear hcell hrow hG hbel
      rcases hN with hnl | ⟨pb, po, pv, hnl, hpb, hpc⟩
      · rw [hnl] at c2
        clear hnl
        go_wp2_with fail
        have R1 : DefRow (put7 wr w.heap.size (k * 7) ⟨(C k).nm, (C k).ty, none, (C k).df, (C k).idn, (C k).pk, (C k).rf⟩) w.heap.size n _ := HR.out.put k _
        have R2 : Below w.heap.size w (put7 wr w.heap.size (k * 7) ⟨(C k).nm, (C k).ty, none, (C k).df, (C k).idn, (C k).pk, (C k).rf⟩) := below_put7 HB.out (Nat.le_refl _) _ _
        go_roundw
        case rel => exact ⟨k + 1, _, by omega, by go_num, R1.alloc _, step_rf HG.out, R2.alloc (by rw [size_put7]; omega) _⟩
        case measure => simp [intOf]; omega
      · rw [hnl] at c2
        have hpc' : wr.cell? ⟨pb, po, none⟩ = some (.bool pv) := (HB.out.cell (p := ⟨pb, po, none⟩) hpb).trans hpc
        have hpb' : pb < wr.heap.size := by omega
        clear hnl hpc hpb
        go_wp2_with fail
        have R1 : DefRow (put7 wr w.heap.size (k * 7) ⟨(C k).nm, (C k).ty, some ⟨wr.heap.size + 1, 0, none⟩, (C k).df, (C k).idn, (C k).pk, (C k).rf⟩) w.heap.size n _ := HR.out.put k _
        have R2 : Below w.heap.size w (put7 wr w.heap.size (k * 7) ⟨(C k).nm, (C k).ty, some ⟨wr.heap.size + 1, 0, none⟩, (C k).df, (C k).idn, (C k).pk, (C k).rf⟩) := below_put7 HB.out (Nat.le_refl _) _ _
        go_roundw
        case rel => exact ⟨k + 1, _, by omega, by go_num, (R1.alloc _).alloc _, step_rf HG.out, below_two R2 (by rw [size_put7]; omega) _ _⟩
        case measure => simp [intOf]; omega
    · have R : Hid (Defd w n C (.returned (.slice (some ⟨w.heap.size, 0, none⟩) n n)) wr) := ⟨w.heap.size, G, rfl, Nat.le_refl _, hrow, fun i hi => hG i (by omega), hbel⟩
      clear hrow hG hbel
      go_wp2_with fail
      go_ret
      exact R.out
end Go.Proofs.Qxb6627192a
