import Derived.Test.Qxb6627192aSmalls
namespace Go.Proofs.Qxb6627192a
open Go.RowKit

def Yes (w : World) (e : Ending) (w' : World) : Prop := e = .returned (.bool true) ∧ Below w.heap.size w w'

theorem At.read {w w' : World} {B : Nat} {a : Option Addr} {n : Nat} {F : Nat → Value} (h : At w B a n F) (hb : Below B w w') {k : Nat} (hk : k < n) : ∃ b o, a = some ⟨b, o, none⟩ ∧ ∀ i, i < n → w'.cell? ⟨b, o + i, none⟩ = some (F i) := by
  obtain ⟨b, o, ha, hlt, hc⟩ := h.pos hk
  exact ⟨b, o, ha, fun i hi => (hb.cell (p := ⟨b, o + i, none⟩) hlt).trans (hc i hi)⟩

set_option maxHeartbeats 400000 in
theorem same9 (w : World) (a1 a2 : Option Addr) (n c1 c2 : Nat) (xs : List (List UInt8)) (h1 : At w w.heap.size a1 n (fun i => sv (xs.getD i []))) (h2 : At w w.heap.size a2 n (fun i => sv (xs.getD i []))) (hn : n ≤ 2097152) :
    Calls Try.prog 9 #[.slice a1 n c1, .slice a2 n c2] w (Yes w) := by
  go_enter Try.func9, Try.ntmps9
  go_wp2_with fail
  go_loopw [5] (fun i wr => ∃ k : Nat, k ≤ n ∧ i = .int .i64 k ∧ Below w.heap.size w wr) (fun i _ => n - (intOf i).toNat)
  case atStart => exact ⟨0, Nat.zero_le _, rfl, Below.refl _ _⟩
  case round =>
    obtain ⟨k, hk, rfl, hbel⟩ := hrel
    by_cases hlt : k < n
    · obtain ⟨b1, o1, e1, r1⟩ := h1.read hbel hlt
      obtain ⟨b2, o2, e2, r2⟩ := h2.read hbel hlt
      obtain ⟨y, hy⟩ : ∃ y, y = bs (xs.getD k []) := ⟨_, rfl⟩
      have q1 : wr.cell? ⟨b1, o1 + k, none⟩ = some (.string y) := by rw [hy]; exact r1 k hlt
      have q2 : wr.cell? ⟨b2, o2 + k, none⟩ = some (.string y) := by rw [hy]; exact r2 k hlt
      have HB : Hid (Below w.heap.size w wr) := hbel
      subst e1 e2
      clear r1 r2 hy hbel
      go_wp2_with fail
      go_quiet (fail)
      go_wp2_with fail
      go_roundw
      case rel => exact ⟨k + 1, by omega, by go_num, below_drewN HB.out _⟩
      case measure => simp [intOf]; omega
    · have HB : Hid (Below w.heap.size w wr) := hbel
      clear hbel
      go_wp2_with fail
      go_ret
      exact ⟨rfl, HB.out⟩

theorem ne_of_nodup {xs : List (List UInt8)} (h : xs.Nodup) {i j : Nat} (hj : j < i) (hi : i < xs.length) : xs.getD j [] ≠ xs.getD i [] := by
  rw [List.getD_eq_getElem?_getD, List.getD_eq_getElem?_getD, List.getElem?_eq_getElem hi, List.getElem?_eq_getElem (by omega : j < xs.length)]
  intro e
  have := (List.getElem_inj (h₀ := by omega) (h₁ := hi) h).1 e
  omega

set_option maxHeartbeats 1000000 in
theorem distinct12 (w : World) (a : Option Addr) (n c : Nat) (xs : List (List UInt8)) (hx : n = xs.length) (hA : At w w.heap.size a n (fun i => sv (xs.getD i []))) (hn : n ≤ 1048576) (hd : xs.Nodup) (he : [] ∉ xs) :
    Calls Try.prog 12 #[.slice a n c] w (Yes w) := by
  have HX : Hid (n = xs.length) := hx
  have HD : Hid (xs.Nodup) := hd
  have HE : Hid ([] ∉ xs) := he
  clear hx hd he
  go_enter Try.func12, Try.ntmps12
  go_wp2_with fail
  go_loopw [3] (fun i wr => ∃ k : Nat, k ≤ n ∧ i = .int .i64 k ∧ Below w.heap.size w wr) (fun i _ => n - (intOf i).toNat)
  case atStart => exact ⟨0, Nat.zero_le _, rfl, Below.refl _ _⟩
  case round =>
    obtain ⟨k, hk, rfl, hbel⟩ := hrel
    by_cases hlt : k < n
    · obtain ⟨b, o, ha, hr⟩ := hA.read hbel hlt
      obtain ⟨y, hy⟩ : ∃ y, y = bs (xs.getD k []) := ⟨_, rfl⟩
      have q1 : wr.cell? ⟨b, o + k, none⟩ = some (.string y) := by rw [hy]; exact hr k hlt
      have hye : y.toList.isEmpty = false := by
        rw [Lib.toList_data, hy, bs_list]
        cases hg : xs.getD k [] with
        | nil => exact absurd (hg ▸ getD_mem (by have := HX.out; omega)) HE.out
        | cons x r => rfl
      have HY : Hid (y = bs (xs.getD k [])) := hy
      have HB : Hid (Below w.heap.size w wr) := hbel
      subst ha
      clear hr hy hbel
      go_wp2_with fail
      go_loopw [4] (fun i wq => ∃ j : Nat, j ≤ k ∧ i = .int .i64 j ∧ Below w.heap.size w wq) (fun i _ => k - (intOf i).toNat)
      case atStart => exact ⟨0, Nat.zero_le _, rfl, HB.out⟩
      case round =>
        clear HB q1
        obtain ⟨j, hj, rfl, hbq⟩ := hrel
        by_cases hlj : j < k
        · obtain ⟨b', o', ha', hr'⟩ := hA.read hbq hlt
          simp only [Option.some.injEq, Addr.mk.injEq, and_true] at ha'
          obtain ⟨rfl, rfl⟩ := ha'
          obtain ⟨z, hz⟩ : ∃ z, z = bs (xs.getD j []) := ⟨_, rfl⟩
          have q1 : wr.cell? ⟨b, o + k, none⟩ = some (.string y) := by rw [HY.out]; exact hr' k hlt
          have q2 : wr.cell? ⟨b, o + j, none⟩ = some (.string z) := by rw [hz]; exact hr' j (by omega)
          have hne : (z.toList == y.toList) = false := by
            rw [eq_lists, hz, HY.out, bs_list, bs_list]
            simpa using ne_of_nodup HD.out hlj (by have := HX.out; omega)
          have HB : Hid (Below w.heap.size w wr) := hbq
          clear hr' hz hbq
          go_wp2_with fail
          go_quiet (fail)
          go_wp2_with fail
          go_roundw
          case rel => exact ⟨j + 1, by omega, by go_num, below_drewN HB.out _⟩
          case measure => simp [intOf]; omega
        · have HB : Hid (Below w.heap.size w wr) := hbq
          clear hbq
          go_wp2_with fail
          go_roundw
          case rel => exact ⟨k + 1, by omega, by go_num, HB.out⟩
          case measure => simp [intOf]; omega
    · have HB : Hid (Below w.heap.size w wr) := hbel
      clear hbel
      go_wp2_with fail
      go_ret
      exact ⟨rfl, HB.out⟩

end Go.Proofs.Qxb6627192a
