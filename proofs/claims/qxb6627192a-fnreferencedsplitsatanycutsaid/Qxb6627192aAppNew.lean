import Derived.Test.Qxb6627192aSame
namespace Go.Proofs.Qxb6627192a
open Go.RowKit

theorem take_snoc {xs : List (List UInt8)} {k : Nat} (h : k < xs.length) : xs.take (k + 1) = xs.take k ++ [xs.getD k []] := by
  rw [List.take_succ_eq_append_getElem h, List.getD_eq_getElem?_getD, List.getElem?_eq_getElem h]
  rfl

theorem newOf_snoc (l r : List (List UInt8)) (x : List UInt8) : newOf l (r ++ [x]) = newOf l r ++ (if x ∈ l then [] else [x]) := by
  unfold newOf
  rw [List.filter_append]
  by_cases h : x ∈ l <;> simp [h]

theorem newOf_length (l r : List (List UInt8)) : (newOf l r).length ≤ r.length := List.length_filter_le _ _

def svs (l : List (List UInt8)) : List Value := l.map sv

theorem svs_snoc (l : List (List UInt8)) (x : List UInt8) : svs (l ++ [x]) = svs l ++ [sv x] := by simp [svs]

/-- What has been gathered: the strings l, at the head of the call's first new block, of capacity c. -/
def Out (w wr : World) (l : List (List UInt8)) (c : Nat) (v : Value) : Prop :=
  ∃ m, m = l.length ∧ v = .slice (some ⟨w.heap.size, 0, none⟩) m c ∧ wr.ownsRow w.heap.size 9 1 (.slice (some ⟨w.heap.size, 0, none⟩) m c) m (svs l) ∧ Below w.heap.size w wr

set_option maxRecDepth 100000 in
set_option maxHeartbeats 1000000 in
theorem appnew10 (w : World) (a1 a2 : Option Addr) (c1 c2 : Nat) (xs ys : List (List UInt8)) (ln rn : Nat) (hl : ln = xs.length) (hr : rn = ys.length)
    (h1 : At w w.heap.size a1 ln (fun i => sv (xs.getD i []))) (h2 : At w w.heap.size a2 rn (fun i => sv (ys.getD i []))) (hn1 : ln ≤ 1048576) (hn2 : rn ≤ 1048576) :
    Calls Try.prog 10 #[.slice a1 ln c1, .slice a2 rn c2] w (GaveStrs w (xs ++ newOf xs ys)) := by
  obtain ⟨i0, hi0, hz0, hz1, hz2⟩ := info_parts info9
  have HL : Hid (ln = xs.length) := hl
  have HR : Hid (rn = ys.length) := hr
  have H1 : Hid (At w w.heap.size a1 ln (fun i => sv (xs.getD i []))) := h1
  have H2 : Hid (At w w.heap.size a2 rn (fun i => sv (ys.getD i []))) := h2
  clear hl hr h1 h2
  go_enter Try.func10, Try.ntmps10
  go_wp2_with (at_make; refine wpList_make_own _ rfl _ _ 27 rfl w.heap.size 9 i0 _ 1 Try.underlying27 hi0 hz0 hz1 .i64 .i64 _ (ln + rn) rfl rfl ?c1 ?c2 ?c3 ?c4 ?_)
  case c1 => omega
  case c2 => rw [hz2]; omega
  case c3 => unfold maxLen; omega
  case c4 => exact Nat.le_refl _
  intro w1 hown hgrow
  have HO : Hid (w1.ownsRow w.heap.size 9 1 (.slice (some ⟨w.heap.size, 0, none⟩) 0 (ln + rn)) 0 []) := hown
  have HB : Hid (Below w.heap.size w w1) := (Below.refl _ _).grown hgrow (Nat.le_refl _) (by simp)
  clear hown hgrow
  go_wp2_with fail
  go_loopw [5, 6] (fun v i wr => ∃ k : Nat, k ≤ ln ∧ i = .int .i64 k ∧ Out w wr (xs.take k) (ln + rn) v) (fun _ i _ => ln - (intOf i).toNat)
  case atStart => exact ⟨0, Nat.zero_le _, rfl, 0, rfl, rfl, HO.out, HB.out⟩
  case round =>
    obtain ⟨k, hk, rfl, m, hm, rfl, hown, hbel⟩ := hrel
    clear HO HB
    have hsz := hbel.size
    have hml : m ≤ k := by rw [hm]; exact List.length_take_le _ _
    have HM : Hid (m = (xs.take k).length) := hm
    clear hm
    have HO : Hid (wr.ownsRow w.heap.size 9 1 (.slice (some ⟨w.heap.size, 0, none⟩) m (ln + rn)) m (svs (xs.take k))) := hown
    have HB : Hid (Below w.heap.size w wr) := hbel
    clear hown hbel
    by_cases hlt : k < ln
    · obtain ⟨b, o, ha, hrd⟩ := H1.out.read HB.out hlt
      obtain ⟨y, hy⟩ : ∃ y, y = bs (xs.getD k []) := ⟨_, rfl⟩
      have q : wr.cell? ⟨b, o + k, none⟩ = some (.string y) := by rw [hy]; exact hrd k hlt
      have HY : Hid (y = bs (xs.getD k [])) := hy
      subst ha
      clear hrd hy
      go_wp2_with (at_builtin; refine wpList_append_fits _ rfl (.tmp 20) (.tmp 25) 27 rfl w.heap.size 9 i0 1 Try.underlying27 hi0 hz1 w.heap.size m (ln + rn) _ rfl (HO.out.alloc _) ⟨wr.heap.size, 0, none⟩ 1 1 [.string y] rfl rfl (cell_one_new _ _ _) (by intro u hu; simp at hu; subst hu; rfl) (by omega) ?_)
      intro w2 hown2 hgrow2
      have R : Hid (Out w w2 (xs.take (k + 1)) (ln + rn) (.slice (some ⟨w.heap.size, 0, none⟩) (m + 1) (ln + rn))) := by
        refine ⟨m + 1, ?_, rfl, ?_, (HB.out.alloc hsz _).grown hgrow2 (by simp; omega) (by simp)⟩
        · rw [take_snoc (by have := HL.out; omega), List.length_append, ← HM.out]; rfl
        · rw [take_snoc (by have := HL.out; omega), svs_snoc, show sv (xs.getD k []) = .string y from by rw [HY.out]; rfl]
          exact hown2
      clear hown2 hgrow2 HO HB HY HM q
      go_wp2_with fail
      go_roundw
      case rel => exact ⟨k + 1, by omega, by go_num, R.out⟩
      case measure => simp [intOf]; omega
    have hkl : k = ln := by omega
    have HO2 : Hid (Out w wr (xs ++ newOf xs (ys.take 0)) (ln + rn) (.slice (some ⟨w.heap.size, 0, none⟩) m (ln + rn))) := by
      have h := HO.out
      have h2 := HM.out
      have hx : xs.take k = xs ++ newOf xs (ys.take 0) := by
        rw [hkl, HL.out, List.take_length]
        simp [newOf]
      rw [hx] at h h2
      exact ⟨m, h2, rfl, h, HB.out⟩
    clear HO HB HM hkl
    go_wp2_with fail
    go_loopw [5, 7] (fun v i wr => ∃ j : Nat, j ≤ rn ∧ i = .int .i64 j ∧ Out w wr (xs ++ newOf xs (ys.take j)) (ln + rn) v) (fun _ i _ => rn - (intOf i).toNat)
    case atStart => exact ⟨0, Nat.zero_le _, rfl, HO2.out⟩
    case round =>
      clear HO2 hsz hml
      obtain ⟨j, hj, rfl, m, hm, rfl, hown, hbel⟩ := hrel
      have hsz := hbel.size
      have hml : m ≤ ln + j := by
        have h1 := newOf_length xs (ys.take j)
        have h2 := List.length_take_le j ys
        have h3 := HL.out
        rw [List.length_append] at hm
        omega
      have HM : Hid (m = (xs ++ newOf xs (ys.take j)).length) := hm
      have HO : Hid (wr.ownsRow w.heap.size 9 1 (.slice (some ⟨w.heap.size, 0, none⟩) m (ln + rn)) m (svs (xs ++ newOf xs (ys.take j)))) := hown
      have HB : Hid (Below w.heap.size w wr) := hbel
      clear hown hbel hm
      by_cases hlj : j < rn
      · obtain ⟨b, o, ha, hrd⟩ := H2.out.read HB.out hlj
        obtain ⟨y, hy⟩ : ∃ y, y = bs (ys.getD j []) := ⟨_, rfl⟩
        have q : wr.cell? ⟨b, o + j, none⟩ = some (.string y) := by rw [hy]; exact hrd j hlj
        have HY : Hid (y = bs (ys.getD j [])) := hy
        have HI : Hid (Calls Try.prog 13 #[.slice a1 ln c1, .string y] wr (Found wr xs (ys.getD j []))) := by
          have h := index13 wr a1 c1 xs y (by rw [← HL.out]; exact H1.out.below HB.out hsz) (by have := HL.out; omega)
          rw [← HL.out, hy, bs_list] at h
          rw [Hid, hy]
          exact h
        subst ha
        clear hrd hy
        go_wp2_with (go_at_call 13; refine HI.out.mono ?_)
        rintro e w' ⟨i, rfl, hww, hi⟩
        subst hww
        clear HI
        have hts : ys.take (j + 1) = ys.take j ++ [ys.getD j []] := take_snoc (by have := HR.out; omega)
        by_cases hmem : ys.getD j [] ∈ xs
        · rw [if_pos hmem] at hi
          have HT : Hid (newOf xs (ys.take (j + 1)) = newOf xs (ys.take j)) := by rw [Hid, hts, newOf_snoc, if_pos hmem, List.append_nil]
          obtain ⟨hi1, hi2⟩ := hi
          clear hts hmem
          go_wp2_with fail
          go_roundw
          case rel => exact ⟨j + 1, by omega, by go_num, by rw [HT.out]; exact ⟨m, HM.out, rfl, HO.out, HB.out⟩⟩
          case measure => simp [intOf]; omega
        · rw [if_neg hmem] at hi
          have HT : Hid (newOf xs (ys.take (j + 1)) = newOf xs (ys.take j) ++ [ys.getD j []]) := by rw [Hid, hts, newOf_snoc, if_neg hmem]
          have hi' : i < 0 := by omega
          clear hi hts hmem
          go_wp2_with (at_builtin; refine wpList_append_fits _ rfl (.tmp 40) (.tmp 45) 27 rfl w.heap.size 9 i0 1 Try.underlying27 hi0 hz1 w.heap.size m (ln + rn) _ rfl (HO.out.alloc _) ⟨w'.heap.size, 0, none⟩ 1 1 [.string y] rfl rfl (cell_one_new _ _ _) (by intro u hu; simp at hu; subst hu; rfl) (by omega) ?_)
          intro w2 hown2 hgrow2
          have R : Hid (Out w w2 (xs ++ newOf xs (ys.take (j + 1))) (ln + rn) (.slice (some ⟨w.heap.size, 0, none⟩) (m + 1) (ln + rn))) := by
            refine ⟨m + 1, ?_, rfl, ?_, (HB.out.alloc hsz _).grown hgrow2 (by simp; omega) (by simp)⟩
            · rw [HT.out, ← List.append_assoc, List.length_append, ← HM.out]; rfl
            · rw [HT.out, ← List.append_assoc, svs_snoc, show sv (ys.getD j []) = .string y from by rw [HY.out]; rfl]
              exact hown2
          clear hown2 hgrow2 HO HB HY HM q
          go_wp2_with fail
          go_roundw
          case rel => exact ⟨j + 1, by omega, by go_num, R.out⟩
          case measure => simp [intOf]; omega
      · have R : Hid (GaveStrs w (xs ++ newOf xs ys) (.returned (.slice (some ⟨w.heap.size, 0, none⟩) m (ln + rn))) wr) := by
          have h := HO.out
          have h2 := HM.out
          rw [List.take_of_length_le (by have := HR.out; omega)] at h h2
          rw [h2] at h
          rw [Hid, h2]
          exact ⟨_, rfl, strs_of h, HB.out⟩
        clear HO HB HM
        go_wp2_with fail
        go_ret
        exact R.out
end Go.Proofs.Qxb6627192a
