import Derived.Test.Qxb6626462aBase
namespace Go.Proofs.Qxb6626462a
open Go.RowKit

/-- What the byte count's yes gives. -/
def Small (np nd nn : Nat) (PL : Nat → Nat) (NS : Nat → ByteArray) : Prop :=
  np ≤ 1048576 ∧ nd ≤ 1048576 ∧ nn ≤ 1048576 ∧ (∀ i, i < np → PL i ≤ 1048576) ∧ ∀ i, i < nn → (NS i).size ≤ 1048576

/-- A bool comes back, the world as it was; a yes gives p. -/
def Told (w : World) (p : Prop) (e : Ending) (w' : World) : Prop :=
  ∃ r, e = .returned (.bool r) ∧ w' = w ∧ (r = true → p)

theorem Told.no (w : World) (p : Prop) : Told w p (.returned (.bool false)) w := ⟨false, rfl, rfl, by simp⟩
theorem Told.yes (w : World) {p : Prop} (h : p) : Told w p (.returned (.bool true)) w := ⟨true, rfl, rfl, fun _ => h⟩

set_option maxHeartbeats 400000 in
theorem bytes5 (w : World) (B : Nat) (ap ad an : Option Addr) (np cp nd cd nn cn : Nat) (x : Int)
    (PA : Nat → Option Addr) (PL PC : Nat → Nat) (PS : Nat → Nat → ByteArray) (NS : Nat → ByteArray)
    (hnp : np ≤ 9223372036854775807) (hnd : nd ≤ 9223372036854775807) (hnn : nn ≤ 9223372036854775807)
    (hP : At w B ap np (fun i => .slice (PA i) (PL i) (PC i)))
    (hI : ∀ i, i < np → PL i ≤ 9223372036854775807 ∧ At w B (PA i) (PL i) (fun j => .string (PS i j)) ∧ ∀ j, j < PL i → (PS i j).size ≤ 9223372036854775807)
    (hN : At w B an nn (fun i => .string (NS i))) (hNS : ∀ i, i < nn → (NS i).size ≤ 9223372036854775807) :
    Calls Try.prog 5 #[.slice ap np cp, .slice ad nd cd, .slice an nn cn, .int .i64 x] w (Told w (Small np nd nn PL NS)) := by
  go_enter Try.func5, Try.ntmps5
  go_wp2_with fail
  · go_ret
    exact Told.no _ _
  have hnp' : np ≤ 1048576 := by omega
  go_loop [9, 10] (fun z i => ∃ (k : Nat) (zz : Int), k ≤ np ∧ 0 ≤ zz ∧ zz ≤ 1048576 ∧ z = .int .i64 zz ∧ i = .int .i64 k ∧ ∀ i, i < k → PL i ≤ 1048576) (fun _ i => np - (intOf i).toNat)
  case atStart => exact ⟨0, np, Nat.zero_le _, by omega, by omega, rfl, rfl, fun i hi => absurd hi (Nat.not_lt_zero i)⟩
  case round =>
    obtain ⟨k, zz, hk, hz0, hz1, rfl, rfl, hall⟩ := hrel
    by_cases hlt : k < np
    · obtain ⟨b, o, rfl, hb, hcell⟩ := hP.pos hlt
      have hc := hcell k hlt
      obtain ⟨hl1, hAI, hl2⟩ := hI k hlt
      clear hcell
      go_wp2_with fail
      · go_ret
        exact Told.no _ _
      · go_ret
        exact Told.no _ _
      have hPL : PL k ≤ 1048576 := by omega
      go_loop [9, 11] (fun z i => ∃ (j : Nat) (zz : Int), j ≤ PL k ∧ 0 ≤ zz ∧ zz ≤ 1048576 ∧ z = .int .i64 zz ∧ i = .int .i64 j) (fun _ i => PL k - (intOf i).toNat)
      case atStart => exact ⟨0, _, Nat.zero_le _, by omega, by omega, rfl, rfl⟩
      case round =>
        obtain ⟨j, zj, hj, hzj0, hzj1, rfl, rfl⟩ := hrel
        by_cases hlj : j < PL k
        · obtain ⟨b2, o2, ha2, hb2, hcell2⟩ := hAI.pos hlj
          have hc2 := hcell2 j hlj
          have hl3 := hl2 j hlj
          clear hcell2 hAI hl2
          rw [ha2] at hc
          go_wp2_with fail
          · go_ret
            exact Told.no _ _
          · go_ret
            exact Told.no _ _
          go_round
          case rel => exact ⟨j + 1, _, by omega, by omega, by omega, rfl, by go_num⟩
          case measure => simp [intOf]; omega
        · go_wp2_with fail
          go_round
          case rel => exact ⟨k + 1, _, by omega, by omega, by omega, rfl, by go_num, fun i hi => by
                        rcases Nat.lt_or_ge i k with h | h
                        · exact hall i h
                        · have : i = k := by omega
                          rw [this]; exact hPL⟩
          case measure => simp [intOf]; omega
    · have hk' : k = np := by omega
      have hall' : ∀ i, i < np → PL i ≤ 1048576 := by rw [← hk']; exact hall
      clear hall hI hP hk'
      go_wp2_with fail
      iterate 4
        · go_ret
          exact Told.no _ _
      have hnd' : nd ≤ 1048576 := by omega
      have hnn' : nn ≤ 1048576 := by omega
      go_loop [9, 12] (fun z i => ∃ (j : Nat) (zz : Int), j ≤ nn ∧ 0 ≤ zz ∧ zz ≤ 1048576 ∧ z = .int .i64 zz ∧ i = .int .i64 j ∧ ∀ i, i < j → (NS i).size ≤ 1048576) (fun _ i => nn - (intOf i).toNat)
      case atStart => exact ⟨0, _, Nat.zero_le _, by omega, by omega, rfl, rfl, fun i hi => absurd hi (Nat.not_lt_zero i)⟩
      case round =>
        obtain ⟨j, zj, hj, hzj0, hzj1, rfl, rfl, hallj⟩ := hrel
        by_cases hlj : j < nn
        · obtain ⟨b2, o2, rfl, hb2, hcell2⟩ := hN.pos hlj
          have hc2 := hcell2 j hlj
          have hl3 := hNS j hlj
          clear hcell2
          go_wp2_with fail
          · go_ret
            exact Told.no _ _
          · go_ret
            exact Told.no _ _
          go_round
          case rel => exact ⟨j + 1, _, by omega, by omega, by omega, rfl, by go_num, fun i hi => by
                        rcases Nat.lt_or_ge i j with h | h
                        · exact hallj i h
                        · have : i = j := by omega
                          rw [this]; omega⟩
          case measure => simp [intOf]; omega
        · have hj' : j = nn := by omega
          rw [hj'] at hallj
          have H : Hid (Small np nd nn PL NS) := ⟨hnp', hnd', hnn', hall', hallj⟩
          clear hallj hall'
          go_wp2_with fail
          go_ret
          exact Told.yes _ H.out

set_option maxHeartbeats 400000 in
theorem bytes13 (w : World) (B : Nat) (ap ad an : Option Addr) (np cp nd cd nn cn : Nat) (x : Int)
    (PA : Nat → Option Addr) (PL PC : Nat → Nat) (PS : Nat → Nat → ByteArray) (NS : Nat → ByteArray)
    (hnp : np ≤ 9223372036854775807) (hnd : nd ≤ 9223372036854775807) (hnn : nn ≤ 9223372036854775807)
    (hP : At w B ap np (fun i => .slice (PA i) (PL i) (PC i)))
    (hI : ∀ i, i < np → PL i ≤ 9223372036854775807 ∧ At w B (PA i) (PL i) (fun j => .string (PS i j)) ∧ ∀ j, j < PL i → (PS i j).size ≤ 9223372036854775807)
    (hN : At w B an nn (fun i => .string (NS i))) (hNS : ∀ i, i < nn → (NS i).size ≤ 9223372036854775807) :
    Calls Try.prog 13 #[.slice ap np cp, .slice ad nd cd, .slice an nn cn, .int .i64 x] w (Told w (Small np nd nn PL NS)) := by
  go_enter Try.func13, Try.ntmps13
  go_wp2_with fail
  · go_ret
    exact Told.no _ _
  have hnp' : np ≤ 1048576 := by omega
  go_loop [9, 10] (fun z i => ∃ (k : Nat) (zz : Int), k ≤ np ∧ 0 ≤ zz ∧ zz ≤ 1048576 ∧ z = .int .i64 zz ∧ i = .int .i64 k ∧ ∀ i, i < k → PL i ≤ 1048576) (fun _ i => np - (intOf i).toNat)
  case atStart => exact ⟨0, np, Nat.zero_le _, by omega, by omega, rfl, rfl, fun i hi => absurd hi (Nat.not_lt_zero i)⟩
  case round =>
    obtain ⟨k, zz, hk, hz0, hz1, rfl, rfl, hall⟩ := hrel
    by_cases hlt : k < np
    · obtain ⟨b, o, rfl, hb, hcell⟩ := hP.pos hlt
      have hc := hcell k hlt
      obtain ⟨hl1, hAI, hl2⟩ := hI k hlt
      clear hcell
      go_wp2_with fail
      · go_ret
        exact Told.no _ _
      · go_ret
        exact Told.no _ _
      have hPL : PL k ≤ 1048576 := by omega
      go_loop [9, 11] (fun z i => ∃ (j : Nat) (zz : Int), j ≤ PL k ∧ 0 ≤ zz ∧ zz ≤ 1048576 ∧ z = .int .i64 zz ∧ i = .int .i64 j) (fun _ i => PL k - (intOf i).toNat)
      case atStart => exact ⟨0, _, Nat.zero_le _, by omega, by omega, rfl, rfl⟩
      case round =>
        obtain ⟨j, zj, hj, hzj0, hzj1, rfl, rfl⟩ := hrel
        by_cases hlj : j < PL k
        · obtain ⟨b2, o2, ha2, hb2, hcell2⟩ := hAI.pos hlj
          have hc2 := hcell2 j hlj
          have hl3 := hl2 j hlj
          clear hcell2 hAI hl2
          rw [ha2] at hc
          go_wp2_with fail
          · go_ret
            exact Told.no _ _
          · go_ret
            exact Told.no _ _
          go_round
          case rel => exact ⟨j + 1, _, by omega, by omega, by omega, rfl, by go_num⟩
          case measure => simp [intOf]; omega
        · go_wp2_with fail
          go_round
          case rel => exact ⟨k + 1, _, by omega, by omega, by omega, rfl, by go_num, fun i hi => by
                        rcases Nat.lt_or_ge i k with h | h
                        · exact hall i h
                        · have : i = k := by omega
                          rw [this]; exact hPL⟩
          case measure => simp [intOf]; omega
    · have hk' : k = np := by omega
      have hall' : ∀ i, i < np → PL i ≤ 1048576 := by rw [← hk']; exact hall
      clear hall hI hP hk'
      go_wp2_with fail
      iterate 4
        · go_ret
          exact Told.no _ _
      have hnd' : nd ≤ 1048576 := by omega
      have hnn' : nn ≤ 1048576 := by omega
      go_loop [9, 12] (fun z i => ∃ (j : Nat) (zz : Int), j ≤ nn ∧ 0 ≤ zz ∧ zz ≤ 1048576 ∧ z = .int .i64 zz ∧ i = .int .i64 j ∧ ∀ i, i < j → (NS i).size ≤ 1048576) (fun _ i => nn - (intOf i).toNat)
      case atStart => exact ⟨0, _, Nat.zero_le _, by omega, by omega, rfl, rfl, fun i hi => absurd hi (Nat.not_lt_zero i)⟩
      case round =>
        obtain ⟨j, zj, hj, hzj0, hzj1, rfl, rfl, hallj⟩ := hrel
        by_cases hlj : j < nn
        · obtain ⟨b2, o2, rfl, hb2, hcell2⟩ := hN.pos hlj
          have hc2 := hcell2 j hlj
          have hl3 := hNS j hlj
          clear hcell2
          go_wp2_with fail
          · go_ret
            exact Told.no _ _
          · go_ret
            exact Told.no _ _
          go_round
          case rel => exact ⟨j + 1, _, by omega, by omega, by omega, rfl, by go_num, fun i hi => by
                        rcases Nat.lt_or_ge i j with h | h
                        · exact hallj i h
                        · have : i = j := by omega
                          rw [this]; omega⟩
          case measure => simp [intOf]; omega
        · have hj' : j = nn := by omega
          rw [hj'] at hallj
          have H : Hid (Small np nd nn PL NS) := ⟨hnp', hnd', hnn', hall', hallj⟩
          clear hallj hall'
          go_wp2_with fail
          go_ret
          exact Told.yes _ H.out
end Go.Proofs.Qxb6626462a
