import Derived.Test.Qxb6626462aBytes
namespace Go.Proofs.Qxb6626462a
open Go.RowKit

set_option maxHeartbeats 400000 in
theorem size6 (w : World) (B : Nat) (ap ad an : Option Addr) (np cp nd cd nn cn : Nat)
    (PA : Nat → Option Addr) (PL PC : Nat → Nat) (PS : Nat → Nat → ByteArray) (NS : Nat → ByteArray)
    (hnp : np ≤ 1048576) (hnd : nd ≤ 1048576) (hnn : nn ≤ 1048576)
    (hP : At w B ap np (fun i => .slice (PA i) (PL i) (PC i)))
    (hI : ∀ i, i < np → PL i ≤ 9223372036854775807 ∧ At w B (PA i) (PL i) (fun j => .string (PS i j)) ∧ ∀ j, j < PL i → (PS i j).size ≤ 9223372036854775807)
    (hN : At w B an nn (fun i => .string (NS i))) (hNS : ∀ i, i < nn → (NS i).size ≤ 9223372036854775807) :
    Calls Try.prog 6 #[.slice ap np cp, .slice ad nd cd, .slice an nn cn] w (Told w True) := by
  by_cases g1 : np ≤ 131072
  rotate_left
  · have g1' : (131072 : Int) < np := by omega
    go_enter Try.func6, Try.ntmps6
    go_wp2_with fail
    go_ret
    exact Told.no _ _
  by_cases g2 : nn ≤ 131072
  rotate_left
  · have g2' : (131072 : Int) < nn := by omega
    go_enter Try.func6, Try.ntmps6
    go_wp2_with fail
    go_ret
    exact Told.no _ _
  by_cases g3 : (nd : Int) + 8 * nn + 8 * np ≤ 1048576
  rotate_left
  · have g3' : 1048576 < (nd : Int) + 8 * nn + 8 * np := by omega
    go_enter Try.func6, Try.ntmps6
    go_wp2_with fail
    go_ret
    exact Told.no _ _
  go_enter Try.func6, Try.ntmps6
  go_wp2_with fail
  go_loop [7, 8] (fun z i => ∃ (j : Nat) (zz : Int), j ≤ nn ∧ 0 ≤ zz ∧ zz ≤ 1048576 ∧ z = .int .i64 zz ∧ i = .int .i64 j) (fun _ i => nn - (intOf i).toNat)
  case atStart => exact ⟨0, _, Nat.zero_le _, by omega, by omega, rfl, rfl⟩
  case round =>
    obtain ⟨j, zj, hj, hzj0, hzj1, rfl, rfl⟩ := hrel
    by_cases hlj : j < nn
    · obtain ⟨b2, o2, rfl, hb2, hcell2⟩ := hN.pos hlj
      have hc2 := hcell2 j hlj
      have hl3 := hNS j hlj
      clear hcell2
      go_wp2_with fail
      · go_ret
        exact Told.no _ _
      · go_ret
        exact Told.no _ _
      go_round
      case rel => exact ⟨j + 1, _, by omega, by omega, by omega, rfl, by go_num⟩
      case measure => simp [intOf]; omega
    go_wp2_with fail
    clear hN hNS
    go_loop [7, 9] (fun z i => ∃ (k : Nat) (zz : Int), k ≤ np ∧ 0 ≤ zz ∧ zz ≤ 1048576 ∧ z = .int .i64 zz ∧ i = .int .i64 k) (fun _ i => np - (intOf i).toNat)
    case atStart => exact ⟨0, _, Nat.zero_le _, by omega, by omega, rfl, rfl⟩
    case round =>
      obtain ⟨k, zz, hk, hz0, hz1, rfl, rfl⟩ := hrel
      by_cases hlt : k < np
      · obtain ⟨b, o, rfl, hb, hcell⟩ := hP.pos hlt
        have hc := hcell k hlt
        obtain ⟨hl1, hAI, hl2⟩ := hI k hlt
        clear hcell
        go_wp2_with fail
        · go_ret
          exact Told.no _ _
        · go_ret
          exact Told.no _ _
        go_loop [7, 10] (fun z i => ∃ (j : Nat) (zz : Int), j ≤ PL k ∧ 0 ≤ zz ∧ zz ≤ 1048576 ∧ z = .int .i64 zz ∧ i = .int .i64 j) (fun _ i => PL k - (intOf i).toNat)
        case atStart => exact ⟨0, _, Nat.zero_le _, by omega, by omega, rfl, rfl⟩
        case round =>
          obtain ⟨j, zj, hj, hzj0, hzj1, rfl, rfl⟩ := hrel
          by_cases hlj : j < PL k
          · obtain ⟨b2, o2, ha2, hb2, hcell2⟩ := hAI.pos hlj
            have hc2 := hcell2 j hlj
            have hl3 := hl2 j hlj
            clear hcell2 hAI hl2
            rw [ha2] at hc
            go_wp2_with fail
            · go_ret
              exact Told.no _ _
            · go_ret
              exact Told.no _ _
            go_round
            case rel => exact ⟨j + 1, _, by omega, by omega, by omega, rfl, by go_num⟩
            case measure => simp [intOf]; omega
          · go_wp2_with fail
            go_round
            case rel => exact ⟨k + 1, _, by omega, by omega, by omega, rfl, by go_num⟩
            case measure => simp [intOf]; omega
      · go_wp2_with fail
        go_ret
        exact Told.yes _ trivial
end Go.Proofs.Qxb6626462a
