import Derived.Lib.Strings
namespace Go.Proofs.Qxb6627192a

def addR (acc : List (List UInt8)) (s : List UInt8) : List (List UInt8) := if s = [] ∨ s ∈ acc then acc else acc ++ [s]

/-- The tables that the columns reference, each once, in the order of the columns. -/
def refL (l : List (List UInt8)) : List (List UInt8) := l.foldl addR []

/-- The first n of a sequence. -/
def lst (F : Nat → List UInt8) : Nat → List (List UInt8)
  | 0 => []
  | k + 1 => lst F k ++ [F k]

theorem lst_length (F : Nat → List UInt8) (n : Nat) : (lst F n).length = n := by
  induction n with
  | zero => rfl
  | succ n ih => simp [lst, ih]

theorem lst_add (F : Nat → List UInt8) (a b : Nat) : lst F (a + b) = lst F a ++ lst (fun i => F (a + i)) b := by
  induction b with
  | zero => simp [lst]
  | succ b ih => rw [← Nat.add_assoc, lst, ih, lst, List.append_assoc]

theorem lst_congr (F G : Nat → List UInt8) (n : Nat) (h : ∀ i, i < n → F i = G i) : lst F n = lst G n := by
  induction n with
  | zero => rfl
  | succ n ih => rw [lst, lst, ih (fun i hi => h i (by omega)), h n (by omega)]

theorem mem_lst (F : Nat → List UInt8) (n : Nat) (x : List UInt8) : x ∈ lst F n ↔ ∃ i, i < n ∧ F i = x := by
  induction n with
  | zero => simp [lst]
  | succ n ih =>
    rw [lst, List.mem_append, ih, List.mem_singleton]
    constructor
    · rintro (⟨i, hi, h⟩ | h)
      · exact ⟨i, by omega, h⟩
      · exact ⟨n, by omega, h.symm⟩
    · rintro ⟨i, hi, h⟩
      by_cases e : i = n
      · right; rw [← h, e]
      · left; exact ⟨i, by omega, h⟩

theorem refL_snoc (l : List (List UInt8)) (x : List UInt8) : refL (l ++ [x]) = addR (refL l) x := by
  simp [refL, List.foldl_append]

theorem refL_lst (F : Nat → List UInt8) (k : Nat) : refL (lst F (k + 1)) = addR (refL (lst F k)) (F k) := by
  rw [lst, refL_snoc]

theorem addR_length (acc : List (List UInt8)) (s : List UInt8) : (addR acc s).length ≤ acc.length + 1 := by
  unfold addR
  split
  · omega
  · simp

theorem refL_lst_length (F : Nat → List UInt8) (k : Nat) : (refL (lst F k)).length ≤ k := by
  induction k with
  | zero => simp [lst, refL]
  | succ k ih =>
    rw [refL_lst]
    have := addR_length (refL (lst F k)) (F k)
    omega

theorem foldl_mem (l acc : List (List UInt8)) (x : List UInt8) : x ∈ l.foldl addR acc ↔ x ∈ acc ∨ (x ∈ l ∧ x ≠ []) := by
  induction l generalizing acc with
  | nil => simp
  | cons y l ih =>
    rw [List.foldl_cons, ih]
    unfold addR
    by_cases h : y = [] ∨ y ∈ acc
    · rw [if_pos h]
      constructor
      · rintro (h1 | ⟨h1, h2⟩)
        · exact Or.inl h1
        · exact Or.inr ⟨List.mem_cons_of_mem _ h1, h2⟩
      · rintro (h1 | ⟨h1, h2⟩)
        · exact Or.inl h1
        · rcases List.mem_cons.1 h1 with e | h3
          · subst e
            rcases h with h | h
            · exact absurd h h2
            · exact Or.inl h
          · exact Or.inr ⟨h3, h2⟩
    · rw [if_neg h]
      simp only [not_or] at h
      rw [List.mem_append, List.mem_singleton]
      constructor
      · rintro ((h1 | h1) | ⟨h1, h2⟩)
        · exact Or.inl h1
        · subst h1; exact Or.inr ⟨List.mem_cons_self, h.1⟩
        · exact Or.inr ⟨List.mem_cons_of_mem _ h1, h2⟩
      · rintro (h1 | ⟨h1, h2⟩)
        · exact Or.inl (Or.inl h1)
        · rcases List.mem_cons.1 h1 with e | h3
          · exact Or.inl (Or.inr e)
          · exact Or.inr ⟨h3, h2⟩

theorem mem_refL (l : List (List UInt8)) (x : List UInt8) : x ∈ refL l ↔ x ∈ l ∧ x ≠ [] := by
  unfold refL
  rw [foldl_mem]
  simp

theorem foldl_nodup (l acc : List (List UInt8)) (h : acc.Nodup) : (l.foldl addR acc).Nodup := by
  induction l generalizing acc with
  | nil => exact h
  | cons y l ih =>
    rw [List.foldl_cons]
    apply ih
    unfold addR
    split
    · exact h
    · rename_i hy
      simp only [not_or] at hy
      rw [List.nodup_append]
      exact ⟨h, by simp, fun a ha b hb => by
        rw [List.mem_singleton] at hb
        subst hb
        intro e
        subst e
        exact hy.2 ha⟩

theorem nodup_refL (l : List (List UInt8)) : (refL l).Nodup := foldl_nodup l [] List.nodup_nil

/-- Those of r that l does not hold, in r's order. -/
def newOf (l r : List (List UInt8)) : List (List UInt8) := r.filter (fun x => decide (x ∉ l))

theorem foldl_split (r acc a2 : List (List UInt8)) : r.foldl addR (acc ++ newOf acc a2) = acc ++ newOf acc (r.foldl addR a2) := by
  induction r generalizing a2 with
  | nil => rfl
  | cons y r ih =>
    rw [List.foldl_cons, List.foldl_cons, ← ih]
    congr 1
    unfold addR
    by_cases h0 : y = []
    · simp [h0]
    · by_cases h1 : y ∈ a2
      · by_cases h2 : y ∈ acc
        · simp [h1, h2]
        · have h3 : y ∈ newOf acc a2 := by unfold newOf; simp [h1, h2]
          simp [h1, h3]
      · have h3 : y ∉ newOf acc a2 := by unfold newOf; simp [h1]
        by_cases h2 : y ∈ acc
        · simp [h0, h1, h2, newOf]
        · rw [if_neg (by simp [h0, h2, h3]), if_neg (by simp [h0, h1])]
          simp [newOf, h2, List.filter_append]

theorem refL_append (l r : List (List UInt8)) : refL (l ++ r) = refL l ++ newOf (refL l) (refL r) := by
  unfold refL
  rw [List.foldl_append]
  have := foldl_split r (l.foldl addR []) []
  simpa [newOf] using this

theorem nodup_length_le {l r : List (List UInt8)} (h : l.Nodup) (hs : ∀ x ∈ l, x ∈ r) : l.length ≤ r.length := by
  induction l generalizing r with
  | nil => simp
  | cons x l ih =>
    rw [List.nodup_cons] at h
    have hx := hs x List.mem_cons_self
    have h1 := ih (r := r.erase x) h.2 (fun y hy => by
      have hne : y ≠ x := fun e => by subst e; exact h.1 hy
      exact (List.mem_erase_of_ne hne).2 (hs y (List.mem_cons_of_mem _ hy)))
    rw [List.length_erase_of_mem hx] at h1
    have h2 : 0 < r.length := List.length_pos_of_mem hx
    simp only [List.length_cons]
    omega

theorem same_length {l r : List (List UInt8)} (hl : l.Nodup) (hr : r.Nodup) (h : ∀ x, x ∈ l ↔ x ∈ r) : l.length = r.length :=
  Nat.le_antisymm (nodup_length_le hl (fun x hx => (h x).1 hx)) (nodup_length_le hr (fun x hx => (h x).2 hx))

theorem refL_one (x : List UInt8) : refL [x] = if x = [] then [] else [x] := by
  unfold refL addR
  by_cases h : x = [] <;> simp [h]

end Go.Proofs.Qxb6627192a
