import Derived.Lib.Join
namespace Go.Proofs.Qxb6626462a

/-- Go's zzDir, and the text that Name writes for a direction. -/
def dirB (d : Bool) : ByteArray := if d then ⟨#[45, 49]⟩ else ⟨#[49]⟩

/-- What Name has gathered after k rounds. -/
def partsB (NS : Nat → ByteArray) (DS : Nat → Bool) : Nat → List ByteArray
  | 0 => []
  | k + 1 => partsB NS DS k ++ [NS k, dirB (DS k)]

def nameL (NS : Nat → ByteArray) (DS : Nat → Bool) (n : Nat) : List UInt8 := Lib.join ((partsB NS DS n).map (·.data.toList)) [95]

theorem partsB_length (NS : Nat → ByteArray) (DS : Nat → Bool) (k : Nat) : (partsB NS DS k).length = 2 * k := by
  induction k with
  | zero => rfl
  | succ k ih => simp [partsB, ih]; omega

theorem partsB_le (NS : Nat → ByteArray) (DS : Nat → Bool) (k M : Nat) (hM : 2 ≤ M) (h : ∀ i, i < k → (NS i).size ≤ M) : ∀ x ∈ partsB NS DS k, x.size ≤ M := by
  induction k with
  | zero => intro x hx; simp [partsB] at hx
  | succ k ih =>
    intro x hx
    simp only [partsB, List.mem_append, List.mem_cons, List.not_mem_nil, or_false] at hx
    rcases hx with hx | rfl | rfl
    · exact ih (fun i hi => h i (by omega)) x hx
    · exact h k (by omega)
    · cases hd : DS k
      · simp [dirB, ByteArray.size]; omega
      · simp [dirB, ByteArray.size]; omega

theorem joinTail_le (xs : List (List UInt8)) (sep : List UInt8) (M : Nat) (h : ∀ x ∈ xs, x.length ≤ M) : (Lib.joinTail sep xs).length ≤ xs.length * (M + sep.length) := by
  induction xs with
  | nil => simp [Lib.joinTail]
  | cons x xs ih =>
    have h1 := ih (fun y hy => h y (List.mem_cons_of_mem _ hy))
    have h2 := h x List.mem_cons_self
    simp only [Lib.joinTail, List.map_cons, List.flatten_cons, List.length_append, List.length_cons] at h1 ⊢
    rw [Nat.succ_mul]
    omega

theorem join_le (xs : List (List UInt8)) (sep : List UInt8) (M : Nat) (h : ∀ x ∈ xs, x.length ≤ M) : (Lib.join xs sep).length ≤ xs.length * (M + sep.length) := by
  cases xs with
  | nil => simp [Lib.join_nil]
  | cons x xs =>
    rw [Lib.join_cons, List.length_append, List.length_cons, Nat.succ_mul]
    have h1 := joinTail_le xs sep M (fun y hy => h y (List.mem_cons_of_mem _ hy))
    have h2 := h x List.mem_cons_self
    omega

theorem nameL_le (NS : Nat → ByteArray) (DS : Nat → Bool) (n : Nat) (hn : n ≤ 1048576) (h : ∀ i, i < n → (NS i).size ≤ 1048576) : (nameL NS DS n).length ≤ 4398046511104 := by
  have h1 := join_le ((partsB NS DS n).map (·.data.toList)) [95] 1048576 (by
    intro x hx
    obtain ⟨y, hy, rfl⟩ := List.mem_map.1 hx
    have := partsB_le NS DS n 1048576 (by omega) h y hy
    rw [Array.length_toList]; exact this)
  rw [List.length_map, partsB_length] at h1
  have h2 : 2 * n * (1048576 + [(95 : UInt8)].length) ≤ 2097152 * 1048577 := Nat.mul_le_mul (by omega) (by simp)
  unfold nameL
  omega

end Go.Proofs.Qxb6626462a
