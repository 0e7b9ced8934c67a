import Derived.Test.Qxb6627192aAppNew
namespace Go.Proofs.Qxb6627192a
open Go.RowKit

/-- What the arguments hold. -/
structure Args (w : World) (tb : ByteArray) (a : Option Addr) (n : Nat) (C : Nat → Col) : Prop where
  htb : tb.size ≤ 9223372036854775807
  hn : n ≤ 9223372036854775807
  hC : Cols w w.heap.size a n C
  hL : ∀ i, i < n → (C i).le 9223372036854775807
  hN : ∀ i, i < n → (C i).nl = none ∨ ∃ b o v, (C i).nl = some ⟨b, o, none⟩ ∧ b < w.heap.size ∧ w.cell? ⟨b, o, none⟩ = some (.bool v)

theorem Args.below {w w' : World} {tb : ByteArray} {a : Option Addr} {n : Nat} {C : Nat → Col} (h : Args w tb a n C) (hb : Below w.heap.size w w') : Args w' tb a n C := by
  refine ⟨h.htb, h.hn, h.hC.below hb hb.size, h.hL, fun i hi => ?_⟩
  rcases h.hN i hi with e | ⟨b, o, v, e, hlt, hc⟩
  · exact Or.inl e
  · exact Or.inr ⟨b, o, v, e, Nat.lt_of_lt_of_le hlt hb.size, (hb.cell (p := ⟨b, o, none⟩) hlt).trans hc⟩

theorem DefRow.cols {w : World} {b n : Nat} {G : Nat → Col} (h : DefRow w b n G) : Cols w w.heap.size (some ⟨b, 0, none⟩) n G :=
  Or.inr ⟨b, 0, rfl, h.lt, fun i hi => by rw [Nat.zero_add]; exact h.col hi⟩

theorem DefRow.below {w w' : World} {b n B : Nat} {G : Nat → Col} (h : DefRow w b n G) (hb : Below B w w') (hB : b < B) : DefRow w' b n G := World.rowIs.of_block h (hb.block b hB)

theorem rev_mem {n : Nat} {R C : Nat → Col} (h : ∀ i, i < n → (R (n - 1 - i)).rf = (C i).rf) (x : List UInt8) : x ∈ lst (rl R) n ↔ x ∈ lst (rl C) n := by
  rw [mem_lst, mem_lst]
  constructor
  · rintro ⟨i, hi, e⟩
    refine ⟨n - 1 - i, by omega, ?_⟩
    have h1 := h (n - 1 - i) (by omega)
    rw [show n - 1 - (n - 1 - i) = i from by omega] at h1
    unfold rl at e ⊢
    rw [← h1, e]
  · rintro ⟨i, hi, e⟩
    refine ⟨n - 1 - i, by omega, ?_⟩
    unfold rl at e ⊢
    rw [h i hi, e]

set_option maxRecDepth 100000 in
set_option maxHeartbeats 4000000 in
theorem law4 (w : World) (tb : ByteArray) (a : Option Addr) (n c : Nat) (C : Nat → Col) (h : Args w tb a n C) : Calls Try.prog 4 #[.string tb, .slice a n c] w (Yes w) := by
  obtain ⟨i0, hi0, hz0, hz1, hz2⟩ := info_parts info35
  have HA : Hid (Args w tb a n C) := h
  have H11 : Hid (Calls Try.prog 11 #[.string tb, .slice a n c] w (Told w (Small n C))) := bytes11 w _ tb a n c C h.htb h.hn h.hC h.hL
  clear h
  go_enter Try.func4, Try.ntmps4
  go_wp2_with (go_at_call 11; refine H11.out.mono ?_)
  rintro e w1 ⟨r, rfl, hb1, hr⟩
  have B1 : Hid (Below w.heap.size w w1) := hb1
  have A1 : Hid (Args w1 tb a n C) := HA.out.below hb1
  clear H11 hb1 HA
  cases r
  · go_wp2_with fail
    go_ret
    exact ⟨rfl, B1.out⟩
  have HS : Hid (Small n C) := hr rfl
  have hn : n ≤ 1048576 := HS.out.1
  have HL : Hid (∀ i, i < n → (C i).rf.size ≤ 1048576) := fun i hi => (HS.out.2 i hi).2.2.2.2
  clear hr
  have H6 : Hid (Calls Try.prog 6 #[.string tb, .slice a n c] w1 (Told w1 True)) := size6 w1 tb a n c C A1.out.htb A1.out.hC HS.out
  go_wp2_with (go_at_call 6; refine H6.out.mono ?_)
  rintro e w2 ⟨r, rfl, hb2, _⟩
  have B2 : Hid (Below w.heap.size w w2) := B1.out.trans (hb2.mono B1.out.size)
  have A2 : Hid (Args w2 tb a n C) := A1.out.below hb2
  clear H6 hb2 B1 A1 HS
  cases r
  · go_wp2_with fail
    go_ret
    exact ⟨rfl, B2.out⟩
  have H7 : Hid (Calls Try.prog 7 #[.slice a n c] w2 (Defd w2 n C)) := defs7 w2 a n c C A2.out.hC hn A2.out.hN
  go_wp2_with (go_at_call 7; refine H7.out.mono ?_)
  rintro e w3 ⟨b3, G, rfl, hb3, hrow, hG, hbel⟩
  have B3 : Hid (Below w.heap.size w w3) := B2.out.trans (hbel.mono B2.out.size)
  have A3 : Hid (Args w3 tb a n C) := A2.out.below hbel
  have D3 : Hid (DefRow w3 b3 n G) := hrow
  have HG : Hid (∀ i, i < n → (G i).rf = (C i).rf) := hG
  clear H7 hb3 hrow hG hbel B2 A2
  have H8 : Hid (Calls Try.prog 8 #[.string tb, .slice (some ⟨b3, 0, none⟩) n n] w3 (GaveStrs w3 (refL (lst (rl C) n)))) := by
    have h := ref8 w3 tb (some ⟨b3, 0, none⟩) n n G D3.out.cols hn (fun i hi => by rw [HG.out i hi]; exact HL.out i hi)
    rw [lst_congr (rl G) (rl C) n (fun i hi => by unfold rl; rw [HG.out i hi])] at h
    exact h
  go_wp2_with (go_at_call 8; refine H8.out.mono ?_)
  rintro e w4 ⟨v, rfl, hs, hb4⟩
  obtain ⟨ag, cg, rfl, hcg, hAg⟩ := hs
  have B4 : Hid (Below w.heap.size w w4) := B3.out.trans (hb4.mono B3.out.size)
  have A4 : Hid (Args w4 tb a n C) := A3.out.below hb4
  have D4 : Hid (DefRow w4 b3 n G) := D3.out.below hb4 D3.out.lt
  have hb3lt : b3 < w4.heap.size := D4.out.lt
  obtain ⟨gn, hgn⟩ : ∃ gn, gn = (refL (lst (rl C) n)).length := ⟨_, rfl⟩
  rw [← hgn] at hAg hcg ⊢
  have hgl : gn ≤ 1048576 := by rw [hgn]; have := refL_lst_length (rl C) n; omega
  have HGN : Hid (gn = (refL (lst (rl C) n)).length) := hgn
  have HAG : Hid (At w4 w4.heap.size ag gn (fun i => sv ((refL (lst (rl C) n)).getD i []))) := hAg
  clear H8 hb4 hAg hgn B3 A3 D3
  have hmk : ∀ w, (Instr.makeSlice 25 (.int .i64 n) (.int .i64 n)).run Try.prog w = .ok (.slice (some ⟨w.heap.size, 0, none⟩) n n) (w.alloc (.cells (madeCells (Value.agg #[.string ⟨#[]⟩, .string ⟨#[]⟩, .pointer none, .string ⟨#[]⟩, .string ⟨#[]⟩, .bool false, .string ⟨#[]⟩]).cells (n * 7)) 35)) := by
    intro w
    have := run_make (P := Try.prog) w 25 35 i0 _ Try.underlying25 hi0 hz0 .i64 .i64 n n (by omega) (Int.le_refl _) (by rw [hz2]; omega) (by omega)
    rw [hz1] at this
    exact this
  clear hi0 hz0 hz1 hz2
  go_wp2_with fail
  clear hmk
  go_loopw [8] (fun i wr => ∃ (k : Nat) (R : Nat → Col), k ≤ n ∧ i = .int .i64 k ∧ DefRow wr w4.heap.size n R ∧ (∀ i, i < k → (R (n - 1 - i)).rf = (G i).rf) ∧ Below w4.heap.size w4 wr) (fun i _ => n - (intOf i).toNat)
  case atStart => exact ⟨0, _, Nat.zero_le _, rfl, DefRow.made w4 n, fun i hi => absurd hi (Nat.not_lt_zero i), (Below.refl _ _).alloc (Nat.le_refl _) _⟩
  case round =>
    obtain ⟨k, R, hk, rfl, hrow, hR, hbel⟩ := hrel
    by_cases hlt : k < n
    · obtain ⟨c0, c1, c2, c3, c4, c5, c6⟩ := (D4.out.below hbel hb3lt).col hlt
      obtain ⟨j, hj⟩ : ∃ j, j = n - 1 - k := ⟨_, rfl⟩
      have hjn : j < n := by omega
      have hji : ((n : Int) - 1 - k) = (j : Int) := by omega
      obtain ⟨d0, d1, d2, d3, d4, d5, d6⟩ := hrow.col hjn
      have f0 := hrow.frozen (j * 7)
      have f1 := hrow.frozen (j * 7 + 1)
      have f2 := hrow.frozen (j * 7 + 2)
      have f3 := hrow.frozen (j * 7 + 3)
      have f4 := hrow.frozen (j * 7 + 4)
      have f5 := hrow.frozen (j * 7 + 5)
      have f6 := hrow.frozen (j * 7 + 6)
      have R1 : Hid (DefRow (put7 wr w4.heap.size (j * 7) (G k)) w4.heap.size n (fun i => if i = j then G k else R i)) := hrow.put j (G k)
      have R2 : Hid (Below w4.heap.size w4 (put7 wr w4.heap.size (j * 7) (G k))) := below_put7 hbel (Nat.le_refl _) _ _
      have R3 : Hid (∀ i, i < k + 1 → (if n - 1 - i = j then G k else R (n - 1 - i)).rf = (G i).rf) := fun i hi => by
        by_cases e : i = k
        · rw [e, if_pos hj.symm]
        · rw [if_neg (by omega)]
          exact hR i (by omega)
      clear hj hrow hR hbel
      go_wp2_with fail
      go_roundw
      case rel => exact ⟨k + 1, _, by omega, by go_num, R1.out, R3.out, R2.out⟩
      case measure => simp [intOf]; omega
    have DR : Hid (DefRow wr w4.heap.size n R) := hrow
    have BR : Hid (Below w4.heap.size w4 wr) := hbel
    have HR : Hid (∀ i, i < n → (R (n - 1 - i)).rf = (G i).rf) := fun i hi => hR i (by omega)
    clear hrow hR hbel
    have HRC : Hid (∀ x, x ∈ lst (rl R) n ↔ x ∈ lst (rl C) n) := rev_mem (fun i hi => (HR.out i hi).trans (HG.out i hi))
    have HRL : Hid (∀ i, i < n → (R i).rf.size ≤ 1048576) := fun i hi => by
      have h1 := HR.out (n - 1 - i) (by omega)
      rw [show n - 1 - (n - 1 - i) = i from by omega, HG.out _ (by omega)] at h1
      rw [h1]
      exact HL.out _ (by omega)
    have H8b : Hid (Calls Try.prog 8 #[.string tb, .slice (some ⟨w4.heap.size, 0, none⟩) n n] wr (GaveStrs wr (refL (lst (rl R) n)))) := ref8 wr tb _ n n R DR.out.cols hn HRL.out
    go_wp2_with (go_at_call 8; refine H8b.out.mono ?_)
    rintro e w5 ⟨v, rfl, hs, hb5⟩
    obtain ⟨au, cu, rfl, hcu, hAu⟩ := hs
    have hu : (refL (lst (rl R) n)).length = gn := by
      rw [HGN.out]
      exact same_length (nodup_refL _) (nodup_refL _) (fun x => by rw [mem_refL, mem_refL, HRC.out])
    rw [hu] at hAu hcu ⊢
    have B45 : Below w4.heap.size w4 w5 := BR.out.trans (hb5.mono BR.out.size)
    have B5 : Hid (Below w.heap.size w w5) := B4.out.trans (B45.mono B4.out.size)
    have A5 : Hid (Args w5 tb a n C) := A4.out.below B45
    have HAG5 : Hid (At w5 w5.heap.size ag gn (fun i => sv ((refL (lst (rl C) n)).getD i []))) := HAG.out.below B45 B45.size
    have HAU5 : Hid (At w5 w5.heap.size au gn (fun i => sv ((refL (lst (rl R) n)).getD i []))) := hAu
    have HU : Hid ((refL (lst (rl R) n)).length = gn) := hu
    clear H8b hb5 hAu hu B45 B4 A4 D4 HAG DR BR HR HRL
    have H12 : Hid (Calls Try.prog 12 #[.slice ag gn cg] w5 (Yes w5)) := distinct12 w5 ag gn cg _ HGN.out HAG5.out hgl (nodup_refL _) (fun h => ((mem_refL _ _).1 h).2 rfl)
    go_wp2_with (go_at_call 12; refine H12.out.mono ?_)
    rintro e w6 ⟨rfl, hb6⟩
    have B6 : Hid (Below w.heap.size w w6) := B5.out.trans (hb6.mono B5.out.size)
    have A6 : Hid (Args w6 tb a n C) := A5.out.below hb6
    have HAG6 : Hid (At w6 w6.heap.size ag gn (fun i => sv ((refL (lst (rl C) n)).getD i []))) := HAG5.out.below hb6 hb6.size
    have HAU6 : Hid (At w6 w6.heap.size au gn (fun i => sv ((refL (lst (rl R) n)).getD i []))) := HAU5.out.below hb6 hb6.size
    clear H12 hb6 B5 A5 HAG5 HAU5
    have H12b : Hid (Calls Try.prog 12 #[.slice au gn cu] w6 (Yes w6)) := distinct12 w6 au gn cu _ HU.out.symm HAU6.out hgl (nodup_refL _) (fun h => ((mem_refL _ _).1 h).2 rfl)
    go_wp2_with (go_at_call 12; refine H12b.out.mono ?_)
    rintro e w7 ⟨rfl, hb7⟩
    have B7 : Hid (Below w.heap.size w w7) := B6.out.trans (hb7.mono B6.out.size)
    have A7 : Hid (Args w7 tb a n C) := A6.out.below hb7
    have HAG7 : Hid (At w7 w7.heap.size ag gn (fun i => sv ((refL (lst (rl C) n)).getD i []))) := HAG6.out.below hb7 hb7.size
    have HAU7 : Hid (At w7 w7.heap.size au gn (fun i => sv ((refL (lst (rl R) n)).getD i []))) := HAU6.out.below hb7 hb7.size
    clear H12b hb7 B6 A6 HAG6 HAU6
    go_wp2_with fail
    have HIX : ∀ s : ByteArray, Hid (Calls Try.prog 13 #[.slice ag gn cg, .string s] w7 (Found w7 (refL (lst (rl C) n)) s.data.toList)) := fun s => by
      have h := index13 w7 ag cg (refL (lst (rl C) n)) s (by rw [← HGN.out]; exact HAG7.out) (by rw [← HGN.out]; exact hgl)
      rw [← HGN.out] at h
      exact h
    go_loop [10] (fun i => ∃ q : Nat, q ≤ gn ∧ i = .int .i64 q) (fun i => gn - (intOf i).toNat)
    case atStart => exact ⟨0, Nat.zero_le _, rfl⟩
    case round =>
      obtain ⟨q, hq, rfl⟩ := hrel
      by_cases hlq : q < gn
      · obtain ⟨bu, ou, eu, hbu, hcu⟩ := HAU7.out.pos hlq
        obtain ⟨y, hy⟩ : ∃ y, y = bs ((refL (lst (rl R) n)).getD q []) := ⟨_, rfl⟩
        have hc : w7.cell? ⟨bu, ou + q, none⟩ = some (.string y) := by rw [hy]; exact hcu q hlq
        have hmem : y.data.toList ∈ refL (lst (rl C) n) := by
          rw [hy, bs_list]
          have h1 : (refL (lst (rl R) n)).getD q [] ∈ refL (lst (rl R) n) := getD_mem (by rw [HU.out]; exact hlq)
          rw [mem_refL, HRC.out] at h1
          rw [mem_refL]
          exact h1
        have HM : Hid (y.data.toList ∈ refL (lst (rl C) n)) := hmem
        subst eu
        clear hcu hy hmem
        go_wp2_with (go_at_call 13; refine (HIX y).out.mono ?_)
        rintro e w' ⟨i, rfl, hww, hi⟩
        rw [if_pos HM.out] at hi
        obtain ⟨hi1, hi2⟩ := hi
        subst hww
        clear HM
        go_wp2_with fail
        go_round
        case rel => exact ⟨q + 1, by omega, by go_num⟩
        case measure => simp [intOf]; omega
      clear HAU7 HU HRC
      go_wp2_with fail
      go_loop [11, 12] (fun i _ => ∃ q : Nat, q ≤ n ∧ i = .int .i64 q) (fun i _ => n - (intOf i).toNat)
      case atStart => exact ⟨0, Nat.zero_le _, rfl⟩
      case round =>
        obtain ⟨p, hp, rfl⟩ := hrel
        by_cases hlp : p < n
        · obtain ⟨b, o, ea, hb, hcol⟩ := A7.out.hC.pos hlp
          have c6 := (hcol p hlp).c6
          subst ea
          clear hcol
          by_cases h0 : rl C p = []
          · have hE : (C p).rf.toList.isEmpty = true := by rw [Lib.toList_data]; unfold rl at h0; rw [h0]; rfl
            clear h0
            go_wp2_with fail
            go_round
            case rel => exact ⟨p + 1, by omega, by go_num⟩
            case measure => simp [intOf]; omega
          · have hE : (C p).rf.toList.isEmpty = false := by
              rw [Lib.toList_data]
              unfold rl at h0
              cases hr : (C p).rf.data.toList with
              | nil => exact absurd hr h0
              | cons x r => rfl
            have HM : Hid ((C p).rf.data.toList ∈ refL (lst (rl C) n)) := (mem_refL _ _).2 ⟨(mem_lst _ _ _).2 ⟨p, hlp, rfl⟩, h0⟩
            clear h0
            go_wp2_with (go_at_call 13; refine (HIX (C p).rf).out.mono ?_)
            rintro e w' ⟨i, rfl, hww, hi⟩
            rw [if_pos HM.out] at hi
            obtain ⟨hi1, hi2⟩ := hi
            subst hww
            clear HM
            go_wp2_with fail
            go_round
            case rel => exact ⟨p + 1, by omega, by go_num⟩
            case measure => simp [intOf]; omega
        clear HIX
        go_wp2_with fail
        go_loopw [13] (fun i wq => ∃ q : Nat, q ≤ gn ∧ i = .int .i64 q ∧ Below w7.heap.size w7 wq) (fun i _ => gn - (intOf i).toNat)
        case atStart => exact ⟨0, Nat.zero_le _, rfl, Below.refl _ _⟩
        case round =>
          obtain ⟨s, hs, rfl, hbel⟩ := hrel
          by_cases hls : s < gn
          · obtain ⟨y, hy⟩ : ∃ y, y = bs ((refL (lst (rl C) n)).getD s []) := ⟨_, rfl⟩
            obtain ⟨p1, hp1, hp2⟩ : ∃ p, p < n ∧ rl C p = y.data.toList := by
              rw [hy, bs_list]
              exact (mem_lst _ _ _).1 ((mem_refL _ _).1 (getD_mem (by rw [← HGN.out]; exact hls))).1
            have HP : Hid (p1 < n ∧ rl C p1 = y.data.toList) := ⟨hp1, hp2⟩
            have HY : Hid (y = bs ((refL (lst (rl C) n)).getD s [])) := hy
            have HB : Hid (Below w7.heap.size w7 wr) := hbel
            clear hp1 hp2 hy hbel
            go_wp2_with fail
            go_loopw [14, 15] (fun vf vj wq => ∃ j : Nat, j ≤ n ∧ vf = .bool false ∧ vj = .int .i64 j ∧ (∀ p, p < j → rl C p ≠ y.data.toList) ∧ Below w7.heap.size w7 wq) (fun _ vj _ => n - (intOf vj).toNat)
            case atStart => exact ⟨0, Nat.zero_le _, rfl, rfl, fun p hp => absurd hp (Nat.not_lt_zero p), HB.out⟩
            case round =>
              clear HB
              obtain ⟨j, hj, rfl, rfl, hall, hbel⟩ := hrel
              by_cases hlj : j < n
              · obtain ⟨b, o, ea, hb, hcol⟩ := A7.out.hC.pos hlj
                have c6 := ((hcol j hlj).below hbel hb).c6
                obtain ⟨bg, og, eg, hrg⟩ := HAG7.out.read hbel hls
                have q6 : wr.cell? ⟨bg, og + s, none⟩ = some (.string y) := by rw [HY.out]; exact hrg s hls
                have HB : Hid (Below w7.heap.size w7 wr) := hbel
                have HALL : Hid (∀ p, p < j → rl C p ≠ y.data.toList) := hall
                subst ea eg
                clear hcol hrg hbel hall
                by_cases he : rl C j = y.data.toList
                · have t1 : ((C j).rf.toList == y.toList) = true := by rw [eq_lists]; unfold rl at he; simpa using he
                  clear he
                  go_wp2_with fail
                  go_quiet (fail)
                  go_wp2_with fail
                  go_roundw
                  case rel => exact ⟨s + 1, by omega, by go_num, below_drewN HB.out _⟩
                  case measure => simp [intOf]; omega
                · have t1 : ((C j).rf.toList == y.toList) = false := by rw [eq_lists]; unfold rl at he; simpa using he
                  have HN : Hid (∀ p, p < j + 1 → rl C p ≠ y.data.toList) := fun p hp => by
                    rcases Nat.lt_or_ge p j with h | h
                    · exact HALL.out p h
                    · have : p = j := by omega
                      rw [this]; exact he
                  clear he HALL
                  go_wp2_with fail
                  go_quiet (fail)
                  go_wp2_with fail
                  go_roundw
                  case rel => exact ⟨j + 1, by omega, rfl, by go_num, HN.out, below_drewN HB.out _⟩
                  case measure => simp [intOf]; omega
              · exact absurd HP.out.2 (hall p1 (by have := HP.out.1; omega))
          · have R9 : Hid (Below w.heap.size w wr) := B7.out.trans (hbel.mono B7.out.size)
            clear hbel
            go_wp2_with fail
            go_ret
            exact ⟨rfl, R9.out⟩
end Go.Proofs.Qxb6627192a
