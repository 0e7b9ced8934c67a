import Derived.Test.Qxb6626462aInv
namespace Go.Proofs.Qxb6626462a

theorem join_append (xs ys : List (List UInt8)) (sep : List UInt8) (hx : xs ≠ []) (hy : ys ≠ []) : Lib.join (xs ++ ys) sep = Lib.join xs sep ++ sep ++ Lib.join ys sep := by
  cases xs with
  | nil => exact absurd rfl hx
  | cons x xs =>
    cases ys with
    | nil => exact absurd rfl hy
    | cons y ys =>
      rw [List.cons_append, Lib.join_cons, Lib.join_cons, Lib.join_cons]
      simp [Lib.joinTail, List.append_assoc]

theorem partsB_add (NS : Nat → ByteArray) (DS : Nat → Bool) (a b : Nat) : partsB NS DS (a + b) = partsB NS DS a ++ partsB (fun i => NS (a + i)) (fun i => DS (a + i)) b := by
  induction b with
  | zero => simp [partsB]
  | succ b ih => rw [← Nat.add_assoc, partsB, ih, partsB, List.append_assoc]

theorem partsB_ne (NS : Nat → ByteArray) (DS : Nat → Bool) (n : Nat) (h : 0 < n) : (partsB NS DS n).map (·.data.toList) ≠ [] := by
  intro e
  have h1 := congrArg List.length e
  rw [List.length_map, partsB_length] at h1
  simp at h1
  omega

theorem nameL_add (NS : Nat → ByteArray) (DS : Nat → Bool) (a b : Nat) (ha : 0 < a) (hb : 0 < b) :
    nameL NS DS (a + b) = nameL NS DS a ++ [95] ++ nameL (fun i => NS (a + i)) (fun i => DS (a + i)) b := by
  unfold nameL
  rw [partsB_add, List.map_append, join_append _ _ _ (partsB_ne _ _ _ ha) (partsB_ne _ _ _ hb)]

theorem bytes_ext {a b : ByteArray} (h : a.data.toList = b.data.toList) : a = b := by
  cases a; cases b
  simp only at h
  exact congrArg ByteArray.mk (Array.toList_inj.1 h)

theorem nameS_list (NS : Nat → ByteArray) (DS : Nat → Bool) (lo hi : Nat) : (nameS NS DS lo hi).data.toList = nameL (fun i => NS (lo + i)) (fun i => DS (lo + i)) (hi - lo) := by
  simp [nameS]

theorem nameS_add (NS : Nat → ByteArray) (DS : Nat → Bool) (lo c hi : Nat) (h0 : lo < c) (h1 : c < hi) :
    nameS NS DS lo hi = nameS NS DS lo c ++ ⟨#[95]⟩ ++ nameS NS DS c hi := by
  apply bytes_ext
  rw [nameS_list, show hi - lo = (c - lo) + (hi - c) from by omega, nameL_add _ _ _ _ (by omega) (by omega)]
  simp only [ByteArray.data_append, Array.toList_append, nameS_list]
  rw [show (fun i => NS (lo + (c - lo + i))) = (fun i => NS (c + i)) from by funext i; congr 1; omega, show (fun i => DS (lo + (c - lo + i))) = (fun i => DS (c + i)) from by funext i; congr 1; omega]

theorem nameS_nil (NS : Nat → ByteArray) (DS : Nat → Bool) (lo : Nat) : nameS NS DS lo lo = ⟨#[]⟩ := by
  apply bytes_ext
  rw [nameS_list, Nat.sub_self]
  rfl

theorem nameS_one (NS : Nat → ByteArray) (DS : Nat → Bool) (lo : Nat) : nameS NS DS lo (lo + 1) = NS lo ++ ⟨#[95]⟩ ++ dirB (DS lo) := by
  apply bytes_ext
  rw [nameS_list, Nat.add_sub_cancel_left]
  simp only [ByteArray.data_append, Array.toList_append]
  simp [nameL, partsB, Lib.join_cons, Lib.joinTail]

end Go.Proofs.Qxb6626462a
