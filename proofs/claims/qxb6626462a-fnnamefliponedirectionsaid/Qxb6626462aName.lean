import Derived.Test.Qxb6626462aKey
import Derived.Test.Qxb6626462aPlain
import Derived.Test.Qxb6626462aShelf
namespace Go.Proofs.Qxb6626462a
open Go.RowKit

def Named (w : World) (l : List UInt8) (e : Ending) (w' : World) : Prop :=
  e = .returned (.string ⟨l.toArray⟩) ∧ Below w.heap.size w w'

theorem join15 (w : World) (B g n : Nat) (NS : Nat → ByteArray) (DS : Nat → Bool) (hn : n ≤ 1048576) (hNS : ∀ i, i < n → (NS i).size ≤ 1048576)
    (hown : w.ownsRow B 9 1 (.slice (some ⟨g, 0, none⟩) (2 * n) (2 * n)) (2 * n) ((partsB NS DS n).map Value.string)) (hg : g < w.heap.size) :
    Calls Try.prog 15 #[.slice (some ⟨g, 0, none⟩) (2 * n) (2 * n), .string ⟨#[95]⟩] w (Named w (nameL NS DS n)) := by
  have hj := Try.strings_Join g 0 (2 * n) (partsB NS DS n) ⟨#[95]⟩ w (fun j x hx => by
      rw [Nat.zero_add, hown.cellAt j (by have := (List.getElem?_eq_some_iff.1 hx).1; rw [partsB_length] at this; omega), List.getElem?_map, hx]; rfl)
    hg (by rw [partsB_length]; omega) (by rw [partsB_length]; omega) (by have := nameL_le NS DS n hn hNS; unfold nameL at this; simp only []; omega)
  rw [partsB_length] at hj
  exact hj

set_option maxHeartbeats 400000 in
theorem name11 (w : World) (b : Nat) (ap ad an : Option Addr) (n cp cd cn : Nat) (NS : Nat → ByteArray) (DS : Nat → Bool) (hn : n ≤ 1048576) (hb : b < w.heap.size)
    (h0 : w.cell? ⟨b, 0, none⟩ = some (.slice ap n cp)) (h1 : w.cell? ⟨b, 1, none⟩ = some (.slice ad n cd)) (h2 : w.cell? ⟨b, 2, none⟩ = some (.slice an n cn))
    (hD : At w w.heap.size ad n (fun i => .bool (DS i))) (hN : At w w.heap.size an n (fun i => .string (NS i))) (hNS : ∀ i, i < n → (NS i).size ≤ 1048576) :
    Calls Try.prog 11 #[.pointer (some ⟨b, 0, none⟩)] w (Named w (nameL NS DS n)) := by
  obtain ⟨i0, hi, hz0, hz1, hz2⟩ := info_parts info9
  go_enter Try.func11, Try.ntmps11
  go_wp2_with (at_make; refine wpList_make_own _ rfl _ _ 24 rfl w.heap.size 9 i0 _ 1 Try.underlying24 hi hz0 hz1 .i64 .i64 _ (2 * n) rfl rfl ?c1 ?c2 ?c3 ?c4 ?_)
  case c1 => omega
  case c2 => rw [hz2]; omega
  case c3 => unfold maxLen; omega
  case c4 => exact Nat.le_refl _
  intro w1 hown hgrow
  have hbel : Below w.heap.size w w1 := (Below.refl _ _).grown hgrow (Nat.le_refl _) (by simp)
  have k2 : w1.cell? ⟨b, 2, none⟩ = some (.slice an n cn) := (hbel.cell (p := ⟨b, 2, none⟩) hb).trans h2
  have HO : Hid (w1.ownsRow w.heap.size 9 1 (.slice (some ⟨w.heap.size, 0, none⟩) 0 (2 * n)) 0 []) := hown
  have HB : Hid (Below w.heap.size w w1) := hbel
  clear hgrow hbel hown
  go_wp2_with fail
  go_loopw [3, 19] (fun v i wr => ∃ k : Nat, k ≤ n ∧ i = .int .i64 k ∧ v = .slice (some ⟨w.heap.size, 0, none⟩) (2 * k) (2 * n) ∧ wr.ownsRow w.heap.size 9 1 (.slice (some ⟨w.heap.size, 0, none⟩) (2 * k) (2 * n)) (2 * k) ((partsB NS DS k).map Value.string) ∧ Below w.heap.size w wr) (fun _ i _ => n - (intOf i).toNat)
  case atStart => exact ⟨0, Nat.zero_le _, rfl, rfl, HO.out, HB.out⟩
  case round =>
    obtain ⟨k, hk, rfl, rfl, hown, hbel⟩ := hrel
    clear HO HB k2
    have h1r : wr.cell? ⟨b, 1, none⟩ = some (.slice ad n cd) := (hbel.cell (p := ⟨b, 1, none⟩) hb).trans h1
    have hsz := hbel.size
    by_cases hlt : k < n
    · obtain ⟨bd, od, had, hbd, hcd⟩ := hD.pos hlt
      obtain ⟨bn, on, han, hbn, hcn⟩ := hN.pos hlt
      subst had han
      have hd : wr.cell? ⟨bd, od + k, none⟩ = some (.bool (DS k)) := (hbel.cell (p := ⟨bd, od + k, none⟩) hbd).trans (hcd k hlt)
      have hs : wr.cell? ⟨bn, on + k, none⟩ = some (.string (NS k)) := (hbel.cell (p := ⟨bn, on + k, none⟩) hbn).trans (hcn k hlt)
      have HB : Hid (Below w.heap.size w wr) := hbel
      have HO : Hid (wr.ownsRow w.heap.size 9 1 (.slice (some ⟨w.heap.size, 0, none⟩) (2 * k) (2 * n)) (2 * k) ((partsB NS DS k).map Value.string)) := hown
      have HP : Hid (partsB NS DS (k + 1) = partsB NS DS k ++ [NS k, dirB (DS k)]) := rfl
      clear hcd hcn hbel hown hD hN h0 h1 h2
      cases hdk : DS k
      · rw [hdk] at hd
        have HD : Hid (DS k = false) := hdk
        clear hdk
        go_wp2_with (at_builtin; refine wpList_append_fits _ rfl (.tmp 31) (.tmp 34) 24 rfl w.heap.size 9 i0 1 Try.underlying24 hi hz1 w.heap.size (2 * k) (2 * n) _ rfl (HO.out.alloc _) ⟨wr.heap.size, 0, none⟩ 2 2 [.string (NS k), .string ⟨#[49]⟩] rfl rfl ?c1f ?c2f ?c3f ?_)
        case c1f =>
          intro j u hj
          match j, hj with
          | 0, hj => simp at hj; subst hj; simp [Addr.add]
          | 1, hj => simp at hj; subst hj; simp [Addr.add]
        case c2f => intro u hu; simp at hu; rcases hu with rfl | rfl <;> rfl
        case c3f => omega
        intro w2 hown2 hgrow2
        have R0 : (w2.ownsRow w.heap.size 9 1 (.slice (some ⟨w.heap.size, 0, none⟩) (2 * (k + 1)) (2 * n)) (2 * (k + 1)) ((partsB NS DS (k + 1)).map Value.string)) := by
          rw [HP.out, HD.out]; simpa [dirB, Nat.mul_succ] using hown2
        have R1 : Hid (w2.ownsRow w.heap.size 9 1 (.slice (some ⟨w.heap.size, 0, none⟩) (2 * (k + 1)) (2 * n)) (2 * (k + 1)) ((partsB NS DS (k + 1)).map Value.string)) := R0
        have R2 : Hid (Below w.heap.size w w2) := (HB.out.alloc hsz _).grown hgrow2 (by simp; omega) (by simp)
        clear R0 hown2 hgrow2 HO HB HP HD
        go_wp2_with fail
        go_roundw
        case rel => exact ⟨k + 1, by omega, by go_num, rfl, R1.out, R2.out⟩
        case measure => simp [intOf]; omega
      · rw [hdk] at hd
        have HD : Hid (DS k = true) := hdk
        clear hdk
        go_wp2_with (at_builtin; refine wpList_append_fits _ rfl (.tmp 31) (.tmp 34) 24 rfl w.heap.size 9 i0 1 Try.underlying24 hi hz1 w.heap.size (2 * k) (2 * n) _ rfl (HO.out.alloc _) ⟨wr.heap.size, 0, none⟩ 2 2 [.string (NS k), .string ⟨#[45, 49]⟩] rfl rfl ?c1t ?c2t ?c3t ?_)
        case c1t =>
          intro j u hj
          match j, hj with
          | 0, hj => simp at hj; subst hj; simp [Addr.add]
          | 1, hj => simp at hj; subst hj; simp [Addr.add]
        case c2t => intro u hu; simp at hu; rcases hu with rfl | rfl <;> rfl
        case c3t => omega
        intro w2 hown2 hgrow2
        have R0 : (w2.ownsRow w.heap.size 9 1 (.slice (some ⟨w.heap.size, 0, none⟩) (2 * (k + 1)) (2 * n)) (2 * (k + 1)) ((partsB NS DS (k + 1)).map Value.string)) := by
          rw [HP.out, HD.out]; simpa [dirB, Nat.mul_succ] using hown2
        have R1 : Hid (w2.ownsRow w.heap.size 9 1 (.slice (some ⟨w.heap.size, 0, none⟩) (2 * (k + 1)) (2 * n)) (2 * (k + 1)) ((partsB NS DS (k + 1)).map Value.string)) := R0
        have R2 : Hid (Below w.heap.size w w2) := (HB.out.alloc hsz _).grown hgrow2 (by simp; omega) (by simp)
        clear R0 hown2 hgrow2 HO HB HP HD
        go_wp2_with fail
        go_roundw
        case rel => exact ⟨k + 1, by omega, by go_num, rfl, R1.out, R2.out⟩
        case measure => simp [intOf]; omega
    · obtain rfl : k = n := by omega
      have hlt' : w.heap.size < wr.heap.size := by
        rcases hown.2 with ⟨h', _⟩ | ⟨g, cap, cur, h', _, hg, _⟩
        · simp at h'
        · simp only [Value.slice.injEq, Option.some.injEq, Addr.mk.injEq, and_true, true_and] at h'
          rw [← h'.1] at hg
          exact (Array.getElem?_eq_some_iff.1 hg).1
      have HJ : Hid (Calls Try.prog 15 #[.slice (some ⟨w.heap.size, 0, none⟩) (2 * k) (2 * k), .string ⟨#[95]⟩] wr (Named wr (nameL NS DS k))) := join15 wr w.heap.size w.heap.size k NS DS hn hNS hown hlt'
      have HB : Hid (Below w.heap.size w wr) := hbel
      clear hown hbel hD hN h0 h1 h2 h1r hlt'
      go_wp2_with (go_at_call 15; refine HJ.out.mono ?_)
      rintro e w3 ⟨rfl, hb3⟩
      have R : Hid (Below w.heap.size w w3) := HB.out.trans (hb3.mono hsz)
      clear HB hb3 HJ
      go_wp2_with fail
      go_ret
      exact ⟨rfl, R.out⟩
end Go.Proofs.Qxb6626462a
