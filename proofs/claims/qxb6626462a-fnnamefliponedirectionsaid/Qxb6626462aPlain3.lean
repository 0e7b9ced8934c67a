import Derived.Test.Qxb6626462aPlain2
namespace Go.Proofs.Qxb6626462a

/-- The directions with j's turned around. -/
def flipD (DS : Nat → Bool) (j : Nat) : Nat → Bool := fun i => if i = j then !DS j else DS i

def sumL (NS : Nat → ByteArray) (DS : Nat → Bool) : Nat → Nat
  | 0 => 0
  | k + 1 => sumL NS DS k + ((NS k).size + (dirB (DS k)).size)

theorem dirB_two (d : Bool) : (dirB d).size ≤ 2 := by cases d <;> decide

theorem sumL_le (NS : Nat → ByteArray) (DS : Nat → Bool) (k : Nat) (h : ∀ i, i < k → (NS i).size ≤ 1048576) : sumL NS DS k ≤ k * 1048578 := by
  induction k with
  | zero => simp [sumL]
  | succ k ih =>
    have h1 := ih (fun i hi => h i (by omega))
    have h2 := h k (by omega)
    have h3 := dirB_two (DS k)
    rw [sumL, Nat.succ_mul]
    omega

theorem nameS_size (NS : Nat → ByteArray) (DS : Nat → Bool) (n : Nat) : (nameS NS DS 0 (n + 1)).size + 1 = 2 * (n + 1) + sumL NS DS (n + 1) := by
  induction n with
  | zero =>
    have h1 : (⟨#[95]⟩ : ByteArray).size = 1 := rfl
    rw [nameS_one, sumL, sumL]
    simp only [ByteArray.size_append]
    omega
  | succ n ih =>
    rw [nameS_add NS DS 0 (n + 1) (n + 1 + 1) (by omega) (by omega), nameS_one]
    simp only [ByteArray.size_append] at ih ⊢
    rw [sumL]
    have : (⟨#[95]⟩ : ByteArray).size = 1 := rfl
    omega

theorem partsB_congr (NS : Nat → ByteArray) (D E : Nat → Bool) (k : Nat) (h : ∀ i, i < k → D i = E i) : partsB NS D k = partsB NS E k := by
  induction k with
  | zero => rfl
  | succ k ih => rw [partsB, partsB, ih (fun i hi => h i (by omega)), h k (by omega)]

theorem nameS_congr (NS : Nat → ByteArray) (D E : Nat → Bool) (lo hi : Nat) (h : ∀ i, lo ≤ i → i < hi → D i = E i) : nameS NS D lo hi = nameS NS E lo hi := by
  unfold nameS nameL
  rw [partsB_congr (fun i => NS (lo + i)) (fun i => D (lo + i)) (fun i => E (lo + i)) (hi - lo) (fun i hi => h _ (by omega) (by omega))]

/-- What stands ahead of j's direction. -/
def headS (NS : Nat → ByteArray) (DS : Nat → Bool) (j : Nat) : ByteArray := if j = 0 then NS j ++ ⟨#[95]⟩ else nameS NS DS 0 j ++ ⟨#[95]⟩ ++ (NS j ++ ⟨#[95]⟩)

/-- What stands behind it. -/
def tailS (NS : Nat → ByteArray) (DS : Nat → Bool) (j n : Nat) : ByteArray := if j + 1 = n then ⟨#[]⟩ else ⟨#[95]⟩ ++ nameS NS DS (j + 1) n

theorem headS_size (NS : Nat → ByteArray) (DS : Nat → Bool) (j : Nat) : (headS NS DS j).size = (if j = 0 then 0 else (nameS NS DS 0 j).size + 1) + (NS j).size + 1 := by
  have : (⟨#[95]⟩ : ByteArray).size = 1 := rfl
  unfold headS
  split
  · simp only [ByteArray.size_append]; omega
  · simp only [ByteArray.size_append]; omega

theorem tailS_size (NS : Nat → ByteArray) (DS : Nat → Bool) (j n : Nat) : (tailS NS DS j n).size = if j + 1 = n then 0 else (nameS NS DS (j + 1) n).size + 1 := by
  have : (⟨#[95]⟩ : ByteArray).size = 1 := rfl
  unfold tailS
  split
  · rfl
  · simp only [ByteArray.size_append]; omega

theorem empty_append (b : ByteArray) : b ++ (⟨#[]⟩ : ByteArray) = b := by
  apply bytes_ext
  simp [ByteArray.data_append]

theorem nameS_front (NS : Nat → ByteArray) (DS : Nat → Bool) (j : Nat) : nameS NS DS 0 (j + 1) = headS NS DS j ++ dirB (DS j) := by
  unfold headS
  by_cases h : j = 0
  · subst h
    rw [if_pos rfl, nameS_one]
  · rw [if_neg h, nameS_add NS DS 0 j (j + 1) (by omega) (by omega), nameS_one]
    simp only [ByteArray.append_assoc]

theorem nameS_three (NS : Nat → ByteArray) (DS : Nat → Bool) (j n : Nat) (h : j < n) : nameS NS DS 0 n = headS NS DS j ++ dirB (DS j) ++ tailS NS DS j n := by
  unfold tailS
  by_cases e : j + 1 = n
  · rw [if_pos e, ← e, nameS_front, empty_append]
  · rw [if_neg e, nameS_add NS DS 0 (j + 1) n (by omega) (by omega), nameS_front]
    simp only [ByteArray.append_assoc]

theorem flip_three (NS : Nat → ByteArray) (DS : Nat → Bool) (j n : Nat) (h : j < n) : nameS NS (flipD DS j) 0 n = headS NS DS j ++ dirB (!DS j) ++ tailS NS DS j n := by
  rw [nameS_three NS (flipD DS j) j n h]
  have e1 : headS NS (flipD DS j) j = headS NS DS j := by
    unfold headS
    rw [nameS_congr NS (flipD DS j) DS 0 j (fun i _ hi => by unfold flipD; rw [if_neg (by omega)])]
  have e2 : tailS NS (flipD DS j) j n = tailS NS DS j n := by
    unfold tailS
    rw [nameS_congr NS (flipD DS j) DS (j + 1) n (fun i hi _ => by unfold flipD; rw [if_neg (by omega)])]
  have e3 : flipD DS j j = !DS j := by unfold flipD; rw [if_pos rfl]
  rw [e1, e2, e3]

theorem size_list (x : ByteArray) : x.data.toList.length = x.size := by rw [Array.length_toList]; rfl

theorem cut_head (h d t : ByteArray) : (h ++ d ++ t).extract 0 h.size = h := by
  apply bytes_ext
  rw [Lib.extract_data]
  simp only [ByteArray.data_append, Array.toList_append, List.append_assoc, List.drop_zero, Nat.sub_zero]
  rw [← size_list, List.take_left']
  rfl

theorem cut_mid (h d t : ByteArray) : (h ++ d ++ t).extract h.size (h.size + d.size) = d := by
  apply bytes_ext
  rw [Lib.extract_data]
  simp only [ByteArray.data_append, Array.toList_append, List.append_assoc]
  rw [← size_list h, ← size_list d, List.drop_left, Nat.add_sub_cancel_left, List.take_left]

theorem cut_tail (h d t : ByteArray) : (h ++ d ++ t).extract (h.size + d.size) (h.size + d.size + t.size) = t := by
  apply bytes_ext
  rw [Lib.extract_data]
  simp only [ByteArray.data_append, Array.toList_append]
  rw [← size_list h, ← size_list d, ← size_list t, ← List.length_append, List.drop_left, Nat.add_sub_cancel_left, List.take_length]

/-- All that the law asks of the two names and of where they part. -/
structure Cuts (A B d d' : ByteArray) (H T : Nat) : Prop where
  b : B.size = H + d.size + T
  a : A.size = H + d'.size + T
  x1 : ((B.extract 0 H).toList == (A.extract 0 H).toList) = true
  x2 : ((B.extract (B.size - T) B.size).toList == (A.extract (A.size - T) A.size).toList) = true
  x3 : ((B.extract H (H + d.size)).toList == d.toList) = true
  x4 : ((A.extract H (H + d'.size)).toList == d'.toList) = true

theorem cuts_of (h d d' t : ByteArray) : Cuts (h ++ d' ++ t) (h ++ d ++ t) d d' h.size t.size := by
  have eb : (h ++ d ++ t).size = h.size + d.size + t.size := by simp only [ByteArray.size_append]
  have ea : (h ++ d' ++ t).size = h.size + d'.size + t.size := by simp only [ByteArray.size_append]
  refine ⟨eb, ea, ?_, ?_, ?_, ?_⟩
  · rw [cut_head, cut_head]; exact beq_self_eq_true _
  · rw [eb, ea, Nat.add_sub_cancel, Nat.add_sub_cancel, cut_tail, cut_tail]; exact beq_self_eq_true _
  · rw [cut_mid]; exact beq_self_eq_true _
  · rw [cut_mid]; exact beq_self_eq_true _

theorem cuts_at (NS : Nat → ByteArray) (DS : Nat → Bool) (j n : Nat) (h : j < n) (d : Bool) (hd : DS j = d) (H T : Nat) (hH : H = (if j = 0 then 0 else (nameS NS DS 0 j).size + 1) + (NS j).size + 1) (hT : T = if j + 1 = n then 0 else (nameS NS DS (j + 1) n).size + 1) :
    Cuts (nameS NS (flipD DS j) 0 n) (nameS NS DS 0 n) (dirB d) (dirB (!d)) H T := by
  rw [hH, hT, ← headS_size, ← tailS_size, flip_three NS DS j n h, nameS_three NS DS j n h, hd]
  exact cuts_of _ _ _ _

end Go.Proofs.Qxb6626462a
