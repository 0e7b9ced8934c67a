import Derived.Test.Qxb6627192aLawD
namespace Go.Proofs.Qxb6627192a
open Go.RowKit

theorem DefRow.cut {w : World} {b n : Nat} {G : Nat → Col} (h : DefRow w b n G) (lo m : Nat) (hm : lo + m ≤ n) : Cols w w.heap.size (some ⟨b, lo * 7, none⟩) m (fun i => G (lo + i)) :=
  Or.inr ⟨b, lo * 7, rfl, h.lt, fun i hi => by
    have := h.col (i := lo + i) (by omega)
    rwa [show (lo + i) * 7 = lo * 7 + i * 7 from by omega] at this⟩

theorem Cols.nil (w : World) (B : Nat) (a : Option Addr) (C : Nat → Col) : Cols w B a 0 C := Or.inl rfl

theorem rl_shift (G C : Nat → Col) (lo m n : Nat) (hm : lo + m ≤ n) (h : ∀ i, i < n → (G i).rf = (C i).rf) : lst (rl (fun i => G (lo + i))) m = lst (fun i => rl C (lo + i)) m :=
  lst_congr _ _ _ (fun i hi => by unfold rl; rw [h (lo + i) (by omega)])

theorem whole_eq (C : Nat → Col) (k n : Nat) (h : k ≤ n) : refL (lst (rl C) k) ++ newOf (refL (lst (rl C) k)) (refL (lst (fun i => rl C (k + i)) (n - k))) = refL (lst (rl C) n) := by
  rw [← refL_append, ← lst_add, show k + (n - k) = n from by omega]

/-- The named length of a slice of strings that came back. -/
theorem Strs.open_ {w : World} {v : Value} {xs : List (List UInt8)} (h : Strs w v xs) : ∃ a c m, m = xs.length ∧ v = .slice a m c ∧ m ≤ c ∧ At w w.heap.size a m (fun i => sv (xs.getD i [])) := by
  obtain ⟨a, c, h1, h2, h3⟩ := h
  exact ⟨a, c, _, rfl, h1, h2, h3⟩

set_option maxRecDepth 100000 in
set_option maxHeartbeats 4000000 in
theorem law3 (w : World) (tb : ByteArray) (a : Option Addr) (n c : Nat) (x : Int) (C : Nat → Col) (h : Args w tb a n C) : Calls Try.prog 3 #[.string tb, .slice a n c, .int .i64 x] w (Yes w) := by
  have HA : Hid (Args w tb a n C) := h
  have H5 : Hid (Calls Try.prog 5 #[.string tb, .slice a n c, .int .i64 x] w (Told w (Small n C))) := bytes5 w _ tb a n c x C h.htb h.hn h.hC h.hL
  clear h
  go_enter Try.func3, Try.ntmps3
  go_wp2_with (go_at_call 5; refine H5.out.mono ?_)
  rintro e w1 ⟨r, rfl, hb1, hr⟩
  have B1 : Hid (Below w.heap.size w w1) := hb1
  have A1 : Hid (Args w1 tb a n C) := HA.out.below hb1
  clear H5 hb1 HA
  cases r
  · go_wp2_with fail
    go_ret
    exact ⟨rfl, B1.out⟩
  have HS : Hid (Small n C) := hr rfl
  have hn : n ≤ 1048576 := HS.out.1
  have HL : Hid (∀ i, i < n → (C i).rf.size ≤ 1048576) := fun i hi => (HS.out.2 i hi).2.2.2.2
  clear hr
  have H6 : Hid (Calls Try.prog 6 #[.string tb, .slice a n c] w1 (Told w1 True)) := size6 w1 tb a n c C A1.out.htb A1.out.hC HS.out
  go_wp2_with (go_at_call 6; refine H6.out.mono ?_)
  rintro e w2 ⟨r, rfl, hb2, _⟩
  have B2 : Hid (Below w.heap.size w w2) := B1.out.trans (hb2.mono B1.out.size)
  have A2 : Hid (Args w2 tb a n C) := A1.out.below hb2
  clear H6 hb2 B1 A1 HS
  cases r
  · go_wp2_with fail
    go_ret
    exact ⟨rfl, B2.out⟩
  by_cases e1 : x < 0
  · go_wp2_with fail
    go_ret
    exact ⟨rfl, B2.out⟩
  by_cases e2 : n < x
  · go_wp2_with fail
    go_ret
    exact ⟨rfl, B2.out⟩
  obtain ⟨k, rfl⟩ := Int.eq_ofNat_of_zero_le (by omega : 0 ≤ x)
  have hk : k ≤ n := by omega
  clear e1 e2
  have H7 : Hid (Calls Try.prog 7 #[.slice a n c] w2 (Defd w2 n C)) := defs7 w2 a n c C A2.out.hC hn A2.out.hN
  go_wp2_with (go_at_call 7; refine H7.out.mono ?_)
  rintro e w3 ⟨b3, G, rfl, hb3, hrow, hG, hbel⟩
  have B3 : Hid (Below w.heap.size w w3) := B2.out.trans (hbel.mono B2.out.size)
  have A3 : Hid (Args w3 tb a n C) := A2.out.below hbel
  have D3 : Hid (DefRow w3 b3 n G) := hrow
  have HG : Hid (∀ i, i < n → (G i).rf = (C i).rf) := hG
  have HGL : Hid (∀ i, i < n → (G i).rf.size ≤ 1048576) := fun i hi => by rw [hG i hi]; exact HL.out i hi
  clear H7 hb3 hrow hG hbel B2 A2
  have H8 : Hid (Calls Try.prog 8 #[.string tb, .slice (some ⟨b3, 0, none⟩) n n] w3 (GaveStrs w3 (refL (lst (rl C) n)))) := by
    have h := ref8 w3 tb (some ⟨b3, 0, none⟩) n n G D3.out.cols hn HGL.out
    rw [lst_congr (rl G) (rl C) n (fun i hi => by unfold rl; rw [HG.out i hi])] at h
    exact h
  go_wp2_with (go_at_call 8; refine H8.out.mono ?_)
  rintro e w4 ⟨v, rfl, hs, hb4⟩
  obtain ⟨ag, cg, gn, hgn, rfl, hcg, hAg⟩ := hs.open_
  have B4 : Hid (Below w.heap.size w w4) := B3.out.trans (hb4.mono B3.out.size)
  have A4 : Hid (Args w4 tb a n C) := A3.out.below hb4
  have D4 : Hid (DefRow w4 b3 n G) := D3.out.below hb4 D3.out.lt
  have hgl : gn ≤ 1048576 := by rw [hgn]; have := refL_lst_length (rl C) n; omega
  have HGN : Hid (gn = (refL (lst (rl C) n)).length) := hgn
  have HAG4 : Hid (At w4 w4.heap.size ag gn (fun i => sv ((refL (lst (rl C) n)).getD i []))) := hAg
  clear H8 hs hb4 hAg hgn B3 A3 D3
  have H8l : Hid (Calls Try.prog 8 #[.string tb, .slice (some ⟨b3, 0, none⟩) k n] w4 (GaveStrs w4 (refL (lst (rl C) k)))) := by
    have hc := D4.out.cut 0 k (by omega)
    rw [Nat.zero_mul] at hc
    have h := ref8 w4 tb (some ⟨b3, 0, none⟩) k n _ hc (by omega) (fun i hi => HGL.out _ (by omega))
    rw [rl_shift G C 0 k n (by omega) HG.out] at h
    simp only [Nat.zero_add] at h
    exact h
  go_wp2_with (go_at_call 8; refine H8l.out.mono ?_)
  rintro e w5 ⟨v, rfl, hs, hb5⟩
  obtain ⟨al, cl, lnn, hln, rfl, hcl, hAl⟩ := hs.open_
  have B5 : Hid (Below w.heap.size w w5) := B4.out.trans (hb5.mono B4.out.size)
  have A5 : Hid (Args w5 tb a n C) := A4.out.below hb5
  have D5 : Hid (DefRow w5 b3 n G) := D4.out.below hb5 D4.out.lt
  have hll : lnn ≤ 1048576 := by rw [hln]; have := refL_lst_length (rl C) k; omega
  have HLN : Hid (lnn = (refL (lst (rl C) k)).length) := hln
  have HAG5 : Hid (At w5 w5.heap.size ag gn (fun i => sv ((refL (lst (rl C) n)).getD i []))) := HAG4.out.below hb5 hb5.size
  have HAL5 : Hid (At w5 w5.heap.size al lnn (fun i => sv ((refL (lst (rl C) k)).getD i []))) := hAl
  clear H8l hs hb5 hAl hln B4 A4 D4 HAG4
  by_cases hkn : k < n
  · have hne : ¬ n = k := by omega
    have H8r : Hid (Calls Try.prog 8 #[.string tb, .slice (some ⟨b3, k * 7, none⟩) (n - k) (n - k)] w5 (GaveStrs w5 (refL (lst (fun i => rl C (k + i)) (n - k))))) := by
      have h := ref8 w5 tb (some ⟨b3, k * 7, none⟩) (n - k) (n - k) _ (D5.out.cut k (n - k) (by omega)) (by omega) (fun i hi => HGL.out _ (by omega))
      rw [rl_shift G C k (n - k) n (by omega) HG.out] at h
      exact h
    go_wp2_with (go_at_call 8; refine H8r.out.mono ?_)
    rintro e w6 ⟨v, rfl, hs, hb6⟩
    obtain ⟨ar, cr, rnn, hrn, rfl, hcr, hAr⟩ := hs.open_
    have B6 : Hid (Below w.heap.size w w6) := B5.out.trans (hb6.mono B5.out.size)
    have A6 : Hid (Args w6 tb a n C) := A5.out.below hb6
    have D6 : Hid (DefRow w6 b3 n G) := D5.out.below hb6 D5.out.lt
    have hrl : rnn ≤ 1048576 := by rw [hrn]; have := refL_lst_length (fun i => rl C (k + i)) (n - k); omega
    have HAG6 : Hid (At w6 w6.heap.size ag gn (fun i => sv ((refL (lst (rl C) n)).getD i []))) := HAG5.out.below hb6 hb6.size
    have H10 : Hid (Calls Try.prog 10 #[.slice al lnn cl, .slice ar rnn cr] w6 (GaveStrs w6 (refL (lst (rl C) n)))) := by
      have h := appnew10 w6 al ar cl cr _ _ lnn rnn HLN.out hrn (HAL5.out.below hb6 hb6.size) hAr hll hrl
      rw [whole_eq C k n hk] at h
      exact h
    clear H8r hs hb6 hAr hrn B5 A5 D5 HAG5 HAL5 HLN
    go_wp2_with (go_at_call 10; refine H10.out.mono ?_)
    rintro e w7 ⟨v, rfl, hs, hb7⟩
    obtain ⟨aw, cw, wn, hwn, rfl, hcw, hAw⟩ := hs.open_
    rw [← HGN.out] at hwn
    rw [hwn] at hAw hcw ⊢
    have B7 : Hid (Below w.heap.size w w7) := B6.out.trans (hb7.mono B6.out.size)
    have A7 : Hid (Args w7 tb a n C) := A6.out.below hb7
    have D7 : Hid (DefRow w7 b3 n G) := D6.out.below hb7 D6.out.lt
    have H9 : Hid (Calls Try.prog 9 #[.slice ag gn cg, .slice aw gn cw] w7 (Yes w7)) := same9 w7 ag aw gn cg cw _ (HAG6.out.below hb7 hb7.size) hAw (by omega)
    clear H10 hs hb7 hAw hwn B6 A6 D6 HAG6
    go_wp2_with (go_at_call 9; refine H9.out.mono ?_)
    rintro e w8 ⟨rfl, hb8⟩
    have B8 : Hid (Below w.heap.size w w8) := B7.out.trans (hb8.mono B7.out.size)
    have A8 : Hid (Args w8 tb a n C) := A7.out.below hb8
    have D8 : Hid (DefRow w8 b3 n G) := D7.out.below hb8 D7.out.lt
    clear H9 hb8 B7 A7 D7
    obtain ⟨b, o, ea, hb, hcol⟩ := A8.out.hC.pos hkn
    have hbc : Hid (b < w8.heap.size ∧ ColAt w8 b (o + k * 7) (C k)) := ⟨hb, hcol k hkn⟩
    subst ea
    clear hcol hb
    have H8o : Hid (Calls Try.prog 8 #[.string tb, .slice (some ⟨b3, k * 7, none⟩) 1 (n - k)] w8 (GaveStrs w8 (refL [rl C k]))) := by
      have h := ref8 w8 tb (some ⟨b3, k * 7, none⟩) 1 (n - k) _ (D8.out.cut k 1 (by omega)) (by omega) (fun i hi => HGL.out _ (by omega))
      rw [rl_shift G C k 1 n (by omega) HG.out] at h
      simp only [lst, List.nil_append, Nat.add_zero] at h
      exact h
    go_wp2_with fail
    refine H8o.out.mono ?_
    rintro e w9 ⟨v, rfl, hs, hb9⟩
    have B9 : Hid (Below w.heap.size w w9) := B8.out.trans (hb9.mono B8.out.size)
    have c6 := (hbc.out.2.below hb9 hbc.out.1).c6
    clear H8o hb9 B8 A8 D8 hbc
    rw [refL_one] at hs
    by_cases h0 : rl C k = []
    · rw [if_pos h0] at hs
      obtain ⟨ao, co, rfl, _, _⟩ := hs
      have hE : (C k).rf.toList.isEmpty = true := by rw [Lib.toList_data]; unfold rl at h0; rw [h0]; rfl
      clear h0
      go_wp2_with fail
      go_ret
      exact ⟨rfl, B9.out⟩
    · rw [if_neg h0] at hs
      obtain ⟨ao, co, rfl, _, hAo⟩ := hs
      have hE : (C k).rf.toList.isEmpty = false := by
        rw [Lib.toList_data]
        unfold rl at h0
        cases hr : (C k).rf.data.toList with
        | nil => exact absurd hr h0
        | cons x r => rfl
      obtain ⟨bo, oo, eo, _, hco⟩ := hAo.pos (k := 0) (by simp)
      have q0 : w9.cell? ⟨bo, oo, none⟩ = some (.string (C k).rf) := by
        have h := hco 0 (by simp)
        rw [Nat.add_zero] at h
        rw [h]
        show some (Value.string (bs (C k).rf.data.toList)) = _
        rw [bs_eq]
      subst eo
      clear h0 hAo hco
      go_wp2_with fail
      go_ret
      exact ⟨rfl, B9.out⟩
  · obtain rfl : k = n := by omega
    have H8r : Hid (Calls Try.prog 8 #[.string tb, .slice (some ⟨b3, 0, none⟩) 0 0] w5 (GaveStrs w5 (refL (lst (fun i => rl C (k + i)) (k - k))))) := by
      rw [Nat.sub_self]
      exact ref8 w5 tb (some ⟨b3, 0, none⟩) 0 0 C (Cols.nil _ _ _ _) (by omega) (fun i hi => absurd hi (Nat.not_lt_zero i))
    go_wp2_with (go_at_call 8; refine H8r.out.mono ?_)
    rintro e w6 ⟨v, rfl, hs, hb6⟩
    obtain ⟨ar, cr, rnn, hrn, rfl, hcr, hAr⟩ := hs.open_
    have B6 : Hid (Below w.heap.size w w6) := B5.out.trans (hb6.mono B5.out.size)
    have A6 : Hid (Args w6 tb a k C) := A5.out.below hb6
    have D6 : Hid (DefRow w6 b3 k G) := D5.out.below hb6 D5.out.lt
    have hrl : rnn ≤ 1048576 := by rw [hrn]; have := refL_lst_length (fun i => rl C (k + i)) (k - k); omega
    have HAG6 : Hid (At w6 w6.heap.size ag gn (fun i => sv ((refL (lst (rl C) k)).getD i []))) := HAG5.out.below hb6 hb6.size
    have H10 : Hid (Calls Try.prog 10 #[.slice al lnn cl, .slice ar rnn cr] w6 (GaveStrs w6 (refL (lst (rl C) k)))) := by
      have h := appnew10 w6 al ar cl cr _ _ lnn rnn HLN.out hrn (HAL5.out.below hb6 hb6.size) hAr hll hrl
      rw [whole_eq C k k hk] at h
      exact h
    clear H8r hs hb6 hAr hrn B5 A5 D5 HAG5 HAL5 HLN
    go_wp2_with (go_at_call 10; refine H10.out.mono ?_)
    rintro e w7 ⟨v, rfl, hs, hb7⟩
    obtain ⟨aw, cw, wn, hwn, rfl, hcw, hAw⟩ := hs.open_
    rw [← HGN.out] at hwn
    rw [hwn] at hAw hcw ⊢
    have B7 : Hid (Below w.heap.size w w7) := B6.out.trans (hb7.mono B6.out.size)
    have A7 : Hid (Args w7 tb a k C) := A6.out.below hb7
    have D7 : Hid (DefRow w7 b3 k G) := D6.out.below hb7 D6.out.lt
    have H9 : Hid (Calls Try.prog 9 #[.slice ag gn cg, .slice aw gn cw] w7 (Yes w7)) := same9 w7 ag aw gn cg cw _ (HAG6.out.below hb7 hb7.size) hAw (by omega)
    clear H10 hs hb7 hAw hwn B6 A6 D6 HAG6
    go_wp2_with (go_at_call 9; refine H9.out.mono ?_)
    rintro e w8 ⟨rfl, hb8⟩
    have B8 : Hid (Below w.heap.size w w8) := B7.out.trans (hb8.mono B7.out.size)
    have A8 : Hid (Args w8 tb a k C) := A7.out.below hb8
    have D8 : Hid (DefRow w8 b3 k G) := D7.out.below hb8 D7.out.lt
    clear H9 hb8 B7 A7 D7
    go_wp2_with fail
    go_ret
    exact ⟨rfl, B8.out⟩

end Go.Proofs.Qxb6627192a
