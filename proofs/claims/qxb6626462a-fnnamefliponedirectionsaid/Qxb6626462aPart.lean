import Derived.Test.Qxb6626462aName
import Derived.Deep.RegionWith
namespace Go.Proofs.Qxb6626462a
open Go.RowKit

/-- The address behind a cut at lo of a slice of capacity c. -/
def cutA (a : Option Addr) (lo c : Nat) : Option Addr := if c = lo then a else a.map (fun x => x.add lo)

theorem cutA_some (b o lo c : Nat) (h : lo < c) : cutA (some ⟨b, o, none⟩) lo c = some ⟨b, o + lo, none⟩ := by
  unfold cutA
  rw [if_neg (by omega)]
  simp [Addr.add]

theorem At.cut {w : World} {B : Nat} {a : Option Addr} {n : Nat} {F : Nat → Value} (h : At w B a n F) (lo hi : Nat) (hhi : hi ≤ n) :
    At w B (cutA a lo n) (hi - lo) (fun i => F (lo + i)) := by
  rcases Nat.eq_zero_or_pos (hi - lo) with h0 | h0
  · exact Or.inl h0
  · obtain ⟨b, o, rfl, hb, hc⟩ := h.pos (k := lo) (by omega)
    refine Or.inr ⟨b, o + lo, ?_, hb, fun i hi' => ?_⟩
    · exact cutA_some _ _ _ _ (by omega)
    · rw [Nat.add_assoc]
      exact hc (lo + i) (by omega)

set_option maxHeartbeats 400000 in
theorem part10_mid (w : World) (bp op bd od bn on : Nat) (n lo hi : Nat) (hlo : lo ≤ hi) (hhi : hi ≤ n) (hlt : lo < n)
    (HK : Hid (Calls Try.prog 14 #[.slice (some ⟨bp, op + lo, none⟩) (hi - lo) (n - lo), .slice (some ⟨bd, od + lo, none⟩) (hi - lo) (n - lo), .slice (some ⟨bn, on + lo, none⟩) (hi - lo) (n - lo)] w.drew
      (Keyed w.drew (hi - lo) (.slice (some ⟨bd, od + lo, none⟩) (hi - lo) (n - lo)) (.slice (some ⟨bn, on + lo, none⟩) (hi - lo) (n - lo))))) :
    Calls Try.prog 10 #[.slice (some ⟨bp, op, none⟩) n n, .slice (some ⟨bd, od, none⟩) n n, .slice (some ⟨bn, on, none⟩) n n, .int .i64 lo, .int .i64 hi] w
      (Keyed w (hi - lo) (.slice (some ⟨bd, od + lo, none⟩) (hi - lo) (n - lo)) (.slice (some ⟨bn, on + lo, none⟩) (hi - lo) (n - lo))) := by
  have hne : ¬ n = lo := by omega
  go_enter Try.func10, Try.ntmps10
  go_wp2_with fail
  go_region_with (go_at_call 14; refine HK.out.mono ?_; rintro e w2 ⟨b, b2, rfl, k1, k2, k3, k4, k5, k6⟩)
  all_goals go_wp2_with fail
  all_goals go_ret
  all_goals exact ⟨b, b2, rfl, k1, k2, k3, k4, k5, ⟨k6.os, k6.tape, k6.output, k6.size, k6.block⟩⟩
set_option maxHeartbeats 400000 in
theorem part10_end (w : World) (ap ad an : Option Addr) (n : Nat) (_hn : n ≤ 1048576)
    (HK : Hid (Calls Try.prog 14 #[.slice ap 0 0, .slice ad 0 0, .slice an 0 0] w.drew (Keyed w.drew 0 (.slice ad 0 0) (.slice an 0 0)))) :
    Calls Try.prog 10 #[.slice ap n n, .slice ad n n, .slice an n n, .int .i64 n, .int .i64 n] w (Keyed w 0 (.slice ad 0 0) (.slice an 0 0)) := by
  go_enter Try.func10, Try.ntmps10
  go_wp2_with fail
  go_region_with (go_at_call 14; refine HK.out.mono ?_; rintro e w2 ⟨b, b2, rfl, k1, k2, k3, k4, k5, k6⟩)
  all_goals go_wp2_with fail
  all_goals go_ret
  all_goals exact ⟨b, b2, rfl, k1, k2, k3, k4, k5, ⟨k6.os, k6.tape, k6.output, k6.size, k6.block⟩⟩

theorem part10 (w : World) (ap ad an : Option Addr) (n lo hi : Nat) (hn : n ≤ 1048576) (hlo : lo ≤ hi) (hhi : hi ≤ n)
    (F D N : Nat → Value) (hA : At w w.heap.size ap n F) (hD : At w w.heap.size ad n D) (hN : At w w.heap.size an n N) (hF : ∀ i, i < n → ∃ a l c, F i = .slice a l c) :
    Calls Try.prog 10 #[.slice ap n n, .slice ad n n, .slice an n n, .int .i64 lo, .int .i64 hi] w (Keyed w (hi - lo) (.slice (cutA ad lo n) (hi - lo) (n - lo)) (.slice (cutA an lo n) (hi - lo) (n - lo))) := by
  have hk := key14 w.drew (cutA ap lo n) (cutA ad lo n) (cutA an lo n) (hi - lo) (n - lo) (hi - lo) (n - lo) (hi - lo) (n - lo) (by omega) (fun i => F (lo + i)) (hA.cut lo hi hhi) (fun i h => hF (lo + i) (by omega))
  by_cases hlt : lo < n
  · obtain ⟨bp, op, rfl, _⟩ := hA.pos hlt
    obtain ⟨bd, od, rfl, _⟩ := hD.pos hlt
    obtain ⟨bn, on, rfl, _⟩ := hN.pos hlt
    rw [cutA_some _ _ _ _ hlt, cutA_some _ _ _ _ hlt, cutA_some _ _ _ _ hlt] at hk
    rw [cutA_some _ _ _ _ hlt, cutA_some _ _ _ _ hlt]
    exact part10_mid w bp op bd od bn on n lo hi hlo hhi hlt hk
  · obtain rfl : lo = n := by omega
    obtain rfl : hi = lo := by omega
    rw [Nat.sub_self] at hk ⊢
    unfold cutA at hk ⊢
    rw [if_pos rfl, if_pos rfl, if_pos rfl] at hk
    rw [if_pos rfl, if_pos rfl]
    exact part10_end w ap ad an hi hn hk

end Go.Proofs.Qxb6626462a
