import Derived.Test.Qxb6626462aLawS
import Derived.Test.Qxb6626462aPlain3
namespace Go.Proofs.Qxb6626462a
open Go.RowKit

/-- The flipped copy. -/
structure Flip (w : World) (bf n j : Nat) (DS : Nat → Bool) : Prop where
  lt : bf < w.heap.size
  cells : ∀ i, i < n → w.cell? ⟨bf, i, none⟩ = some (.bool (flipD DS j i))

theorem Flip.step {w w' : World} {bf n j : Nat} {DS : Nat → Bool} (h : Flip w bf n j DS) (hb : Below w.heap.size w w') : Flip w' bf n j DS :=
  ⟨Nat.lt_of_lt_of_le h.lt hb.size, fun i hi => (hb.cell (p := ⟨bf, i, none⟩) h.lt).trans (h.cells i hi)⟩

theorem Flip.at_ {w : World} {bf n j : Nat} {DS : Nat → Bool} (h : Flip w bf n j DS) : At w w.heap.size (some ⟨bf, 0, none⟩) n (fun i => .bool (flipD DS j i)) :=
  Or.inr ⟨bf, 0, rfl, h.lt, fun i hi => by rw [Nat.zero_add]; exact h.cells i hi⟩

theorem flip_of {w : World} {bf n j : Nat} {DS : Nat → Bool} (h : w.rowIs bf 4 n (fun i => .bool (DS i))) : Flip (w.setCell ⟨bf, j, none⟩ (.bool (!DS j))) bf n j DS := by
  have h1 := h.set j (.bool (!DS j))
  refine ⟨h1.lt, fun i hi => ?_⟩
  rw [h1.cell hi]
  unfold flipD
  by_cases e : i = j <;> simp [e]

theorem nameF {w0 w : World} {ap ad an : Option Addr} {n : Nat} {DS : Nat → Bool} {NS : Nat → ByteArray} (h : Trio w0 w ap ad an n DS NS) {bf j b b2 : Nat} (hf : Flip w bf n j DS) (hb : b < w.heap.size)
    (c0 : w.cell? ⟨b, 0, none⟩ = some (.slice (some ⟨b2, 0, none⟩) n n)) (c1 : w.cell? ⟨b, 1, none⟩ = some (.slice (some ⟨bf, 0, none⟩) n n)) (c2 : w.cell? ⟨b, 2, none⟩ = some (.slice an n n)) :
    Calls Try.prog 11 #[.pointer (some ⟨b, 0, none⟩)] w (Spelt w (nameS NS (flipD DS j) 0 n)) := by
  have hn := name11 w b _ _ _ n _ _ _ NS (flipD DS j) h.hn hb c0 c1 c2 hf.at_ h.s h.l
  have e : nameS NS (flipD DS j) 0 n = ⟨(nameL NS (flipD DS j) n).toArray⟩ := by
    unfold nameS
    simp only [Nat.zero_add, Nat.sub_zero]
  rw [e]
  exact hn

theorem Trio.cd {w0 w : World} {ap an : Option Addr} {b o n : Nat} {DS : Nat → Bool} {NS : Nat → ByteArray} (h : Trio w0 w ap (some ⟨b, o, none⟩) an n DS NS) {i : Nat} (hi : i < n) : w.cell? ⟨b, o + i, none⟩ = some (.bool (DS i)) := by
  obtain ⟨b', o', e, _, hc⟩ := h.d.pos hi
  simp only [Option.some.injEq, Addr.mk.injEq, and_true] at e
  obtain ⟨rfl, rfl⟩ := e
  exact hc i hi

theorem Trio.cn {w0 w : World} {ap ad : Option Addr} {b o n : Nat} {DS : Nat → Bool} {NS : Nat → ByteArray} (h : Trio w0 w ap ad (some ⟨b, o, none⟩) n DS NS) {i : Nat} (hi : i < n) : w.cell? ⟨b, o + i, none⟩ = some (.string (NS i)) := by
  obtain ⟨b', o', e, _, hc⟩ := h.s.pos hi
  simp only [Option.some.injEq, Addr.mk.injEq, and_true] at e
  obtain ⟨rfl, rfl⟩ := e
  exact hc i hi

theorem keyF {w0 w : World} {ap ad an : Option Addr} {n : Nat} {DS : Nat → Bool} {NS : Nat → ByteArray} (h : Trio w0 w ap ad an n DS NS) (bf : Nat) :
    Calls Try.prog 14 #[.slice ap n n, .slice (some ⟨bf, 0, none⟩) n n, .slice an n n] w (Keyed w n (.slice (some ⟨bf, 0, none⟩) n n) (.slice an n n)) := by
  obtain ⟨F, h1, h2⟩ := h.p
  exact key14 w ap _ an n n n n n n h.hn F h1 h2

set_option maxRecDepth 100000 in
set_option maxHeartbeats 8000000 in
theorem law4 (w : World) (ap ad an : Option Addr) (np cp nd cd nn cn : Nat) (x : Int) (PA : Nat → Option Addr) (PL PC : Nat → Nat) (PS : Nat → Nat → ByteArray) (DS : Nat → Bool) (NS : Nat → ByteArray)
    (h : Args w ap ad an np cp nd cd nn cn PA PL PC PS DS NS) :
    Calls Try.prog 4 #[.slice ap np cp, .slice ad nd cd, .slice an nn cn, .int .i64 x] w (Yes w) := by
  have H5 : Hid (Calls Try.prog 13 #[.slice ap np cp, .slice ad nd cd, .slice an nn cn, .int .i64 x] w (Told w (Small np nd nn PL NS))) := bytes13 w _ ap ad an np cp nd cd nn cn x PA PL PC PS NS h.hnp h.hnd h.hnn h.hp h.hi h.hs h.hl
  have HA : Hid (Args w ap ad an np cp nd cd nn cn PA PL PC PS DS NS) := h
  clear h
  go_enter Try.func4, Try.ntmps4
  go_wp2_with (go_at_call 13; refine H5.out.mono ?_)
  rintro e w' ⟨r, rfl, rfl, hr⟩
  clear H5
  cases r
  · go_wp2_with fail
    go_ret
    exact ⟨rfl, Below.refl _ _⟩
  obtain ⟨hnp, hnd, hnn, hpl, hsl⟩ := hr rfl
  have HPL : Hid (∀ i, i < np → PL i ≤ 1048576) := hpl
  have HSL : Hid (∀ i, i < nn → (NS i).size ≤ 1048576) := hsl
  clear hr hpl hsl
  have H6 : Hid (Calls Try.prog 6 #[.slice ap np cp, .slice ad nd cd, .slice an nn cn] w' (Told w' True)) := size6 w' _ ap ad an np cp nd cd nn cn PA PL PC PS NS hnp hnd hnn HA.out.hp HA.out.hi HA.out.hs HA.out.hl
  go_wp2_with (go_at_call 6; refine H6.out.mono ?_)
  rintro e w ⟨r, rfl, rfl, _⟩
  clear H6
  cases r
  · go_wp2_with fail
    go_ret
    exact ⟨rfl, Below.refl _ _⟩
  by_cases e1 : nd = nn
  rotate_left
  · have e1' : ((nd : Int) != nn) = true := by rw [bne_iff_ne]; omega
    go_wp2_with fail
    go_ret
    exact ⟨rfl, Below.refl _ _⟩
  subst e1
  by_cases e2 : np = nd
  rotate_left
  · have e2' : ((np : Int) != nd) = true := by rw [bne_iff_ne]; omega
    go_wp2_with fail
    go_ret
    exact ⟨rfl, Below.refl _ _⟩
  subst e2
  by_cases e3 : x < 0
  · go_wp2_with fail
    go_ret
    exact ⟨rfl, Below.refl _ _⟩
  by_cases e4 : np ≤ x
  · go_wp2_with fail
    go_ret
    exact ⟨rfl, Below.refl _ _⟩
  obtain ⟨j, rfl⟩ := Int.eq_ofNat_of_zero_le (by omega : 0 ≤ x)
  have hj : j < np := by omega
  clear e3 e4
  have H7 : Hid (Calls Try.prog 7 #[.slice ap np cp] w (CopiedPaths w np)) := copy7 w ap np cp PA PL PC PS hnp HA.out.hap HA.out.hp (fun i hi => ⟨HPL.out i hi, HA.out.hz i hi, (HA.out.hi i hi).2.1⟩)
  go_wp2_with (go_at_call 7; refine H7.out.mono ?_)
  rintro e w1 ⟨v, rfl, hv, hb1⟩
  obtain ⟨a7, rfl, k7⟩ := slAt_of hv
  have K7 : Hid (SlAt w1 a7 np) := k7
  have B1 : Hid (Below w.heap.size w w1) := hb1
  clear hv k7 hb1 H7
  have H8 : Hid (Calls Try.prog 8 #[.slice ad np cd] w1 (Copied w1 4 np (fun i => .bool (DS i)))) := copy8 w1 ad np cd DS hnp HA.out.had (HA.out.hd.below B1.out B1.out.size)
  go_wp2_with (go_at_call 8; refine H8.out.mono ?_)
  rintro e w2 ⟨v, rfl, hv, hb2⟩
  obtain ⟨a8, rfl, k8⟩ := hv.at_
  have K8 : Hid (At w2 w2.heap.size a8 np (fun i => .bool (DS i))) := k8
  have K7' : Hid (SlAt w2 a7 np) := K7.out.below hb2
  have B2 : Hid (Below w.heap.size w w2) := B1.out.trans (hb2.mono B1.out.size)
  clear hv k8 hb2 H8 K7 B1
  have H9 : Hid (Calls Try.prog 9 #[.slice an np cn] w2 (Copied w2 9 np (fun i => .string (NS i)))) := copy9 w2 an np cn NS hnp HA.out.han (HA.out.hs.below B2.out B2.out.size)
  go_wp2_with (go_at_call 9; refine H9.out.mono ?_)
  rintro e w3 ⟨v, rfl, hv, hb3⟩
  obtain ⟨a9, rfl, k9⟩ := hv.at_
  have T3 : Hid (Trio w w3 a7 a8 a9 np DS NS) := ⟨K7'.out.below hb3, K8.out.below hb3 hb3.size, k9, B2.out.trans (hb3.mono B2.out.size), hnp, HSL.out⟩
  clear hv k9 hb3 H9 K7' K8 B2 HA HPL HSL
  have H8b : Hid (Calls Try.prog 8 #[.slice a8 np np] w3 (Copied w3 4 np (fun i => .bool (DS i)))) := copy8 w3 a8 np np DS hnp (fun h => by have := T3.out.d.pos hj; obtain ⟨b, o, e, _⟩ := this; rw [h] at e; cases e) T3.out.d
  go_wp2_with (go_at_call 8; refine H8b.out.mono ?_)
  rintro e w4 ⟨v, rfl, hv, hb4⟩
  obtain ⟨bf, hvf, hbf, hrow⟩ : ∃ b, v = .slice (some ⟨b, 0, none⟩) np np ∧ w3.heap.size ≤ b ∧ w4.rowIs b 4 np (fun i => .bool (DS i)) := by
    rcases hv with ⟨_, h⟩ | h
    · omega
    · exact h
  subst hvf
  have hcj := hrow.cell hj
  have hfj := hrow.frozen j
  have F5 : Hid (Flip (w4.setCell ⟨bf, j, none⟩ (.bool (!DS j))) bf np j DS) := flip_of hrow
  have T5 : Hid (Trio w (w4.setCell ⟨bf, j, none⟩ (.bool (!DS j))) a7 a8 a9 np DS NS) := T3.out.step (hb4.setCell hbf _)
  clear hv hrow hb4 H8b T3
  have P1 : Hid (Calls Try.prog 10 #[.slice a7 np np, .slice a8 np np, .slice a9 np np, .int .i64 0, .int .i64 np] (w4.setCell ⟨bf, j, none⟩ (.bool (!DS j))) (Parted (w4.setCell ⟨bf, j, none⟩ (.bool (!DS j))) np 0 np a8 a9)) := partI T5.out 0 np (by omega) (by omega)
  go_wp2_with (go_at_call 10; refine P1.out.mono ?_)
  rintro e w6 ⟨b6, rfl, k6, hb6⟩
  have T6 : Hid (Trio w w6 a7 a8 a9 np DS NS) := T5.out.step hb6
  have F6 : Hid (Flip w6 bf np j DS) := F5.out.step hb6
  have N1 : Hid (Calls Try.prog 11 #[.pointer (some ⟨b6, 0, none⟩)] w6 (Spelt w6 (nameS NS DS 0 np))) := nameI T6.out (by omega) k6
  clear k6 hb6 P1 T5 F5 hcj hfj
  go_wp2_with (go_at_call 11; refine N1.out.mono ?_)
  rintro e w7 ⟨rfl, hb7⟩
  have T7 : Hid (Trio w w7 a7 a8 a9 np DS NS) := T6.out.step hb7
  have F7 : Hid (Flip w7 bf np j DS) := F6.out.step hb7
  clear hb7 N1 T6 F6
  have P2 : Hid (Calls Try.prog 14 #[.slice a7 np np, .slice (some ⟨bf, 0, none⟩) np np, .slice a9 np np] w7 (Keyed w7 np (.slice (some ⟨bf, 0, none⟩) np np) (.slice a9 np np))) := keyF T7.out bf
  go_wp2_with (go_at_call 14; refine P2.out.mono ?_)
  rintro e w8 ⟨b8, b82, rfl, _, q1, q2, q3, q4, hb8⟩
  have T8 : Hid (Trio w w8 a7 a8 a9 np DS NS) := T7.out.step hb8
  have F8 : Hid (Flip w8 bf np j DS) := F7.out.step hb8
  have N2 : Hid (Calls Try.prog 11 #[.pointer (some ⟨b8, 0, none⟩)] w8 (Spelt w8 (nameS NS (flipD DS j) 0 np))) := nameF T8.out F8.out q1 q2 q3 q4
  clear q1 q2 q3 q4 hb8 P2 T7 F7
  go_wp2_with (go_at_call 11; refine N2.out.mono ?_)
  rintro e w9 ⟨rfl, hb9⟩
  have T9 : Hid (Trio w w9 a7 a8 a9 np DS NS) := T8.out.step hb9
  have F9 : Hid (Flip w9 bf np j DS) := F8.out.step hb9
  clear hb9 N2 T8 F8
  have P3 : Hid (Calls Try.prog 10 #[.slice a7 np np, .slice a8 np np, .slice a9 np np, .int .i64 0, .int .i64 j] w9 (Parted w9 np 0 j a8 a9)) := partI T9.out 0 j (by omega) (by omega)
  go_wp2_with (go_at_call 10; refine P3.out.mono ?_)
  rintro e w10 ⟨b10, rfl, k10, hb10⟩
  have T10 : Hid (Trio w w10 a7 a8 a9 np DS NS) := T9.out.step hb10
  have F10 : Hid (Flip w10 bf np j DS) := F9.out.step hb10
  have N3 : Hid (Calls Try.prog 11 #[.pointer (some ⟨b10, 0, none⟩)] w10 (Spelt w10 (nameS NS DS 0 j))) := nameI T10.out (by omega) k10
  clear k10 hb10 P3 T9 F9
  go_wp2_with (go_at_call 11; refine N3.out.mono ?_)
  rintro e w11 ⟨rfl, hb11⟩
  have T11 : Hid (Trio w w11 a7 a8 a9 np DS NS) := T10.out.step hb11
  have F11 : Hid (Flip w11 bf np j DS) := F10.out.step hb11
  clear hb11 N3 T10 F10
  have P4 : Hid (Calls Try.prog 10 #[.slice a7 np np, .slice a8 np np, .slice a9 np np, .int .i64 ((j : Int) + 1), .int .i64 np] w11 (Parted w11 np (j + 1) np a8 a9)) := partI T11.out (j + 1) np (by omega) (by omega)
  go_wp2_with (go_at_call 10; refine P4.out.mono ?_)
  rintro e w12 ⟨b12, rfl, k12, hb12⟩
  have T12 : Hid (Trio w w12 a7 a8 a9 np DS NS) := T11.out.step hb12
  have F12 : Hid (Flip w12 bf np j DS) := F11.out.step hb12
  have N4 : Hid (Calls Try.prog 11 #[.pointer (some ⟨b12, 0, none⟩)] w12 (Spelt w12 (nameS NS DS (j + 1) np))) := nameI T12.out (by omega) k12
  clear k12 hb12 P4 T11 F11
  go_wp2_with (go_at_call 11; refine N4.out.mono ?_)
  rintro e w13 ⟨rfl, hb13⟩
  have T13 : Hid (Trio w w13 a7 a8 a9 np DS NS) := T12.out.step hb13
  have F13 : Hid (Flip w13 bf np j DS) := F12.out.step hb13
  clear hb13 N4 T12 F12
  obtain ⟨bd, od, hda, hxx⟩ := T13.out.d.pos hj
  obtain ⟨bn, on, hna, hyy⟩ := T13.out.s.pos hj
  clear hxx hyy
  have HL : Hid (∀ i, i < np → (NS i).size ≤ 1048576) := T13.out.l
  subst hda hna
  go_wp2_with fail
  go_loopw [15, 16] (fun v i wr => ∃ k : Nat, k ≤ np ∧ i = .int .i64 k ∧ v = .int .i64 (2 * np - 1 + sumL NS DS k) ∧ Trio w wr a7 (some ⟨bd, od, none⟩) (some ⟨bn, on, none⟩) np DS NS ∧ Flip wr bf np j DS) (fun _ i _ => np - (intOf i).toNat)
  case atStart => exact ⟨0, Nat.zero_le _, rfl, by simp [sumL], T13.out, F13.out⟩
  case round =>
    obtain ⟨k, hk, rfl, rfl, tr, fl⟩ := hrel
    have hsum := sumL_le NS DS k (fun i hi => HL.out i (by omega))
    have hsum2 : sumL NS DS k ≤ 1099513724928 := by
      have : k * 1048578 ≤ 1048576 * 1048578 := Nat.mul_le_mul_right _ (by omega)
      omega
    have TR : Hid (Trio w wr a7 (some ⟨bd, od, none⟩) (some ⟨bn, on, none⟩) np DS NS) := tr
    have FL : Hid (Flip wr bf np j DS) := fl
    clear hsum tr fl T13 F13
    by_cases hlt : k < np
    · have hcd := TR.out.cd hlt
      have hcn := TR.out.cn hlt
      have hl0 := HL.out k hlt
      have hd0 := dirB_two (DS k)
      go_wp2_with fail
      go_quiet ((go_at_call 12; exact Calls.quiet_of_same (dir12 _ _)))
      go_wp2_with fail
      go_roundw
      case rel =>
        refine ⟨k + 1, by omega, by go_num, ?_, TR.out.step (below_drewN (Below.refl _ _) _), FL.out.step (below_drewN (Below.refl _ _) _)⟩
        rw [show ((sumL NS DS (k + 1) : Nat) : Int) = sumL NS DS k + ((NS k).size + (dirB (DS k)).size) from by simp [sumL]]
        go_num
      case measure => simp [intOf]; omega
    · have hkn : k = np := by omega
      subst hkn
      have hz := nameS_size NS DS (k - 1)
      rw [show k - 1 + 1 = k from by omega] at hz
      have hz2 : ((nameS NS DS 0 k).size : Int) = 2 * k - 1 + sumL NS DS k := by omega
      have HZ : Hid (((nameS NS DS 0 k).size : Int) = 2 * k - 1 + sumL NS DS k) := hz2
      have hneq : (((nameS NS DS 0 k).size : Int) != 2 * k - 1 + sumL NS DS k) = false := by rw [hz2]; simp
      clear hz hz2
      have hcd := TR.out.cd hj
      have hl0 := HL.out j hj
      have hB : ((nameS NS DS 0 k).size : Int) ≤ 4398046511104 := by have := nameS_le NS DS 0 k k hnp (Nat.le_refl _) HL.out; omega
      clear hsum2 hlt HZ
      rcases (show DS j = false ∨ DS j = true from by cases DS j <;> simp) with hdj | hdj
      · rw [hdj] at hcd
        have HD : Hid (DS j = false) := hdj
        have HF : Hid (flipD DS j j = true) := by unfold Hid flipD; rw [if_pos rfl, hdj]; rfl
        clear hdj
        have hcn := TR.out.cn hj
        have hcf := FL.out.cells j hj
        rw [HF.out] at hcf
        by_cases j0 : 0 < j
        · have j0' : (0 : Int) < j := by omega
          by_cases j1 : j + 1 < k
          · have j1' : (j : Int) + 1 < k := by omega
            have cut := cuts_at NS DS j k hj false HD.out ((nameS NS DS 0 j).size + (NS j).size + 1 + 1) ((nameS NS DS (j + 1) k).size + 1) (by rw [if_neg (by omega)]; omega) (by rw [if_neg (by omega)])
            have db : (dirB false).size = 1 := rfl
            have da : (dirB true).size = 2 := rfl
            have s1 := cut.b
            have s2 := cut.a
            simp only [Bool.not_false] at s2
            rw [db] at s1
            rw [da] at s2
            have hA : (((nameS NS (flipD DS j) 0 k).size : Int) != ((nameS NS DS 0 k).size : Int) + 1) = false := by rw [bne_eq_false_iff_eq]; omega
            have b1 : ((nameS NS DS 0 k).size : Int) ≤ (((nameS NS DS 0 j).size : Int) + ((NS j).size : Int) + 1 + 1) + 1 + (((nameS NS DS (j + 1) k).size : Int) + 1) := by omega
            have b2 : (((nameS NS DS 0 j).size : Int) + ((NS j).size : Int) + 1 + 1) + 1 + (((nameS NS DS (j + 1) k).size : Int) + 1) ≤ ((nameS NS DS 0 k).size : Int) := by omega
            have a1 : ((nameS NS (flipD DS j) 0 k).size : Int) ≤ (((nameS NS DS 0 j).size : Int) + ((NS j).size : Int) + 1 + 1) + 2 + (((nameS NS DS (j + 1) k).size : Int) + 1) := by omega
            have a2 : (((nameS NS DS 0 j).size : Int) + ((NS j).size : Int) + 1 + 1) + 2 + (((nameS NS DS (j + 1) k).size : Int) + 1) ≤ ((nameS NS (flipD DS j) 0 k).size : Int) := by omega
            have wb : IntKind.i64.wrap (((nameS NS DS 0 k).size : Int) - (((nameS NS DS (j + 1) k).size : Int) + 1)) = (((nameS NS DS 0 j).size : Int) + ((NS j).size : Int) + 1 + 1) + 1 := by rw [IntKind.wrap_i64]; omega
            have wa : IntKind.i64.wrap (((nameS NS (flipD DS j) 0 k).size : Int) - (((nameS NS DS (j + 1) k).size : Int) + 1)) = (((nameS NS DS 0 j).size : Int) + ((NS j).size : Int) + 1 + 1) + 2 := by rw [IntKind.wrap_i64]; omega
            have z0 : 0 ≤ (((nameS NS DS 0 j).size : Int) + ((NS j).size : Int) + 1 + 1) := by omega
            have z1 : 0 ≤ (((nameS NS DS 0 j).size : Int) + ((NS j).size : Int) + 1 + 1) + 1 ∧ (((nameS NS DS 0 j).size : Int) + ((NS j).size : Int) + 1 + 1) + 1 ≤ ((nameS NS DS 0 k).size : Int) := by omega
            have z2 : 0 ≤ (((nameS NS DS 0 j).size : Int) + ((NS j).size : Int) + 1 + 1) + 2 ∧ (((nameS NS DS 0 j).size : Int) + ((NS j).size : Int) + 1 + 1) + 2 ≤ ((nameS NS (flipD DS j) 0 k).size : Int) := by omega
            have z3 : (((nameS NS DS 0 j).size : Int) + ((NS j).size : Int) + 1 + 1) ≤ (((nameS NS DS 0 j).size : Int) + ((NS j).size : Int) + 1 + 1) + 1 := by omega
            have z4 : (((nameS NS DS 0 j).size : Int) + ((NS j).size : Int) + 1 + 1) ≤ (((nameS NS DS 0 j).size : Int) + ((NS j).size : Int) + 1 + 1) + 2 := by omega
            have x1 := cut.x1
            have x2 := cut.x2
            rw [show (nameS NS DS 0 k).size - ((nameS NS DS (j + 1) k).size + 1) = (nameS NS DS 0 j).size + (NS j).size + 1 + 1 + 1 from by omega, show (nameS NS (flipD DS j) 0 k).size - ((nameS NS DS (j + 1) k).size + 1) = (nameS NS DS 0 j).size + (NS j).size + 1 + 1 + 2 from by omega] at x2
            have x3 := cut.x3
            have x4 := cut.x4
            rw [db] at x3
            simp only [Bool.not_false] at x4
            rw [da] at x4
            clear cut db da s1 s2
            go_wp2_with fail
            go_quiet (fail)
            obtain ⟨wq1, hwq1⟩ : ∃ x, x = wr.drewN nq := ⟨_, rfl⟩
            have TR1 : Hid (Trio w wq1 a7 (some ⟨bd, od, none⟩) (some ⟨bn, on, none⟩) k DS NS) := by rw [hwq1]; exact TR.out.step (below_drewN (Below.refl _ _) _)
            have FL1 : Hid (Flip wq1 bf k j DS) := by rw [hwq1]; exact FL.out.step (below_drewN (Below.refl _ _) _)
            rw [← hwq1]
            clear hwq1 TR FL hcd hcn hcf
            have hcd := TR1.out.cd hj
            have hcn := TR1.out.cn hj
            have hcf := FL1.out.cells j hj
            rw [HD.out] at hcd
            rw [HF.out] at hcf
            go_wp2_with fail
            go_quiet (fail)
            obtain ⟨wq2, hwq2⟩ : ∃ x, x = wq1.drewN nq := ⟨_, rfl⟩
            have TR2 : Hid (Trio w wq2 a7 (some ⟨bd, od, none⟩) (some ⟨bn, on, none⟩) k DS NS) := by rw [hwq2]; exact TR1.out.step (below_drewN (Below.refl _ _) _)
            have FL2 : Hid (Flip wq2 bf k j DS) := by rw [hwq2]; exact FL1.out.step (below_drewN (Below.refl _ _) _)
            rw [← hwq2]
            clear hwq2 TR1 FL1 hcd hcn hcf
            have hcd := TR2.out.cd hj
            have hcn := TR2.out.cn hj
            have hcf := FL2.out.cells j hj
            rw [HD.out] at hcd
            rw [HF.out] at hcf
            go_wp2_with fail
            go_quiet ((go_at_call 12; exact Calls.quiet_of_same (dir12 _ _)))
            obtain ⟨wq3, hwq3⟩ : ∃ x, x = wq2.drewN nq := ⟨_, rfl⟩
            have TR3 : Hid (Trio w wq3 a7 (some ⟨bd, od, none⟩) (some ⟨bn, on, none⟩) k DS NS) := by rw [hwq3]; exact TR2.out.step (below_drewN (Below.refl _ _) _)
            have FL3 : Hid (Flip wq3 bf k j DS) := by rw [hwq3]; exact FL2.out.step (below_drewN (Below.refl _ _) _)
            rw [← hwq3]
            clear hwq3 TR2 FL2 hcd hcn hcf
            have hcd := TR3.out.cd hj
            have hcn := TR3.out.cn hj
            have hcf := FL3.out.cells j hj
            rw [HD.out] at hcd
            rw [HF.out] at hcf
            go_wp2_with fail
            go_quiet ((go_at_call 12; exact Calls.quiet_of_same (dir12 _ _)))
            obtain ⟨wq4, hwq4⟩ : ∃ x, x = wq3.drewN nq := ⟨_, rfl⟩
            have TR4 : Hid (Trio w wq4 a7 (some ⟨bd, od, none⟩) (some ⟨bn, on, none⟩) k DS NS) := by rw [hwq4]; exact TR3.out.step (below_drewN (Below.refl _ _) _)
            have FL4 : Hid (Flip wq4 bf k j DS) := by rw [hwq4]; exact FL3.out.step (below_drewN (Below.refl _ _) _)
            rw [← hwq4]
            clear hwq4 TR3 FL3 hcd hcn hcf
            have hcd := TR4.out.cd hj
            have hcn := TR4.out.cn hj
            have hcf := FL4.out.cells j hj
            rw [HD.out] at hcd
            rw [HF.out] at hcf
            go_wp2_with fail
            go_ret
            exact ⟨rfl, TR4.out.b⟩
          · have j1' : (k : Int) ≤ (j : Int) + 1 := by omega
            have qz : Hid ((nameS NS DS (j + 1) k).size = 0) := by unfold Hid; rw [show k = j + 1 from by omega, nameS_nil]; rfl
            have cut := cuts_at NS DS j k hj false HD.out ((nameS NS DS 0 j).size + (NS j).size + 1 + 1) ((nameS NS DS (j + 1) k).size) (by rw [if_neg (by omega)]; omega) (by rw [if_pos (by omega)]; exact qz.out)
            have db : (dirB false).size = 1 := rfl
            have da : (dirB true).size = 2 := rfl
            have s1 := cut.b
            have s2 := cut.a
            simp only [Bool.not_false] at s2
            rw [db] at s1
            rw [da] at s2
            have hA : (((nameS NS (flipD DS j) 0 k).size : Int) != ((nameS NS DS 0 k).size : Int) + 1) = false := by rw [bne_eq_false_iff_eq]; omega
            have b1 : ((nameS NS DS 0 k).size : Int) ≤ (((nameS NS DS 0 j).size : Int) + ((NS j).size : Int) + 1 + 1) + 1 + ((nameS NS DS (j + 1) k).size : Int) := by omega
            have b2 : (((nameS NS DS 0 j).size : Int) + ((NS j).size : Int) + 1 + 1) + 1 + ((nameS NS DS (j + 1) k).size : Int) ≤ ((nameS NS DS 0 k).size : Int) := by omega
            have a1 : ((nameS NS (flipD DS j) 0 k).size : Int) ≤ (((nameS NS DS 0 j).size : Int) + ((NS j).size : Int) + 1 + 1) + 2 + ((nameS NS DS (j + 1) k).size : Int) := by omega
            have a2 : (((nameS NS DS 0 j).size : Int) + ((NS j).size : Int) + 1 + 1) + 2 + ((nameS NS DS (j + 1) k).size : Int) ≤ ((nameS NS (flipD DS j) 0 k).size : Int) := by omega
            have wb : IntKind.i64.wrap (((nameS NS DS 0 k).size : Int) - ((nameS NS DS (j + 1) k).size : Int)) = (((nameS NS DS 0 j).size : Int) + ((NS j).size : Int) + 1 + 1) + 1 := by rw [IntKind.wrap_i64]; omega
            have wa : IntKind.i64.wrap (((nameS NS (flipD DS j) 0 k).size : Int) - ((nameS NS DS (j + 1) k).size : Int)) = (((nameS NS DS 0 j).size : Int) + ((NS j).size : Int) + 1 + 1) + 2 := by rw [IntKind.wrap_i64]; omega
            have z0 : 0 ≤ (((nameS NS DS 0 j).size : Int) + ((NS j).size : Int) + 1 + 1) := by omega
            have z1 : 0 ≤ (((nameS NS DS 0 j).size : Int) + ((NS j).size : Int) + 1 + 1) + 1 ∧ (((nameS NS DS 0 j).size : Int) + ((NS j).size : Int) + 1 + 1) + 1 ≤ ((nameS NS DS 0 k).size : Int) := by omega
            have z2 : 0 ≤ (((nameS NS DS 0 j).size : Int) + ((NS j).size : Int) + 1 + 1) + 2 ∧ (((nameS NS DS 0 j).size : Int) + ((NS j).size : Int) + 1 + 1) + 2 ≤ ((nameS NS (flipD DS j) 0 k).size : Int) := by omega
            have z3 : (((nameS NS DS 0 j).size : Int) + ((NS j).size : Int) + 1 + 1) ≤ (((nameS NS DS 0 j).size : Int) + ((NS j).size : Int) + 1 + 1) + 1 := by omega
            have z4 : (((nameS NS DS 0 j).size : Int) + ((NS j).size : Int) + 1 + 1) ≤ (((nameS NS DS 0 j).size : Int) + ((NS j).size : Int) + 1 + 1) + 2 := by omega
            have x1 := cut.x1
            have x2 := cut.x2
            rw [show (nameS NS DS 0 k).size - ((nameS NS DS (j + 1) k).size) = (nameS NS DS 0 j).size + (NS j).size + 1 + 1 + 1 from by omega, show (nameS NS (flipD DS j) 0 k).size - ((nameS NS DS (j + 1) k).size) = (nameS NS DS 0 j).size + (NS j).size + 1 + 1 + 2 from by omega] at x2
            have x3 := cut.x3
            have x4 := cut.x4
            rw [db] at x3
            simp only [Bool.not_false] at x4
            rw [da] at x4
            clear cut db da s1 s2
            go_wp2_with fail
            go_quiet (fail)
            obtain ⟨wq1, hwq1⟩ : ∃ x, x = wr.drewN nq := ⟨_, rfl⟩
            have TR1 : Hid (Trio w wq1 a7 (some ⟨bd, od, none⟩) (some ⟨bn, on, none⟩) k DS NS) := by rw [hwq1]; exact TR.out.step (below_drewN (Below.refl _ _) _)
            have FL1 : Hid (Flip wq1 bf k j DS) := by rw [hwq1]; exact FL.out.step (below_drewN (Below.refl _ _) _)
            rw [← hwq1]
            clear hwq1 TR FL hcd hcn hcf
            have hcd := TR1.out.cd hj
            have hcn := TR1.out.cn hj
            have hcf := FL1.out.cells j hj
            rw [HD.out] at hcd
            rw [HF.out] at hcf
            go_wp2_with fail
            go_quiet (fail)
            obtain ⟨wq2, hwq2⟩ : ∃ x, x = wq1.drewN nq := ⟨_, rfl⟩
            have TR2 : Hid (Trio w wq2 a7 (some ⟨bd, od, none⟩) (some ⟨bn, on, none⟩) k DS NS) := by rw [hwq2]; exact TR1.out.step (below_drewN (Below.refl _ _) _)
            have FL2 : Hid (Flip wq2 bf k j DS) := by rw [hwq2]; exact FL1.out.step (below_drewN (Below.refl _ _) _)
            rw [← hwq2]
            clear hwq2 TR1 FL1 hcd hcn hcf
            have hcd := TR2.out.cd hj
            have hcn := TR2.out.cn hj
            have hcf := FL2.out.cells j hj
            rw [HD.out] at hcd
            rw [HF.out] at hcf
            go_wp2_with fail
            go_quiet ((go_at_call 12; exact Calls.quiet_of_same (dir12 _ _)))
            obtain ⟨wq3, hwq3⟩ : ∃ x, x = wq2.drewN nq := ⟨_, rfl⟩
            have TR3 : Hid (Trio w wq3 a7 (some ⟨bd, od, none⟩) (some ⟨bn, on, none⟩) k DS NS) := by rw [hwq3]; exact TR2.out.step (below_drewN (Below.refl _ _) _)
            have FL3 : Hid (Flip wq3 bf k j DS) := by rw [hwq3]; exact FL2.out.step (below_drewN (Below.refl _ _) _)
            rw [← hwq3]
            clear hwq3 TR2 FL2 hcd hcn hcf
            have hcd := TR3.out.cd hj
            have hcn := TR3.out.cn hj
            have hcf := FL3.out.cells j hj
            rw [HD.out] at hcd
            rw [HF.out] at hcf
            go_wp2_with fail
            go_quiet ((go_at_call 12; exact Calls.quiet_of_same (dir12 _ _)))
            obtain ⟨wq4, hwq4⟩ : ∃ x, x = wq3.drewN nq := ⟨_, rfl⟩
            have TR4 : Hid (Trio w wq4 a7 (some ⟨bd, od, none⟩) (some ⟨bn, on, none⟩) k DS NS) := by rw [hwq4]; exact TR3.out.step (below_drewN (Below.refl _ _) _)
            have FL4 : Hid (Flip wq4 bf k j DS) := by rw [hwq4]; exact FL3.out.step (below_drewN (Below.refl _ _) _)
            rw [← hwq4]
            clear hwq4 TR3 FL3 hcd hcn hcf
            have hcd := TR4.out.cd hj
            have hcn := TR4.out.cn hj
            have hcf := FL4.out.cells j hj
            rw [HD.out] at hcd
            rw [HF.out] at hcf
            go_wp2_with fail
            go_ret
            exact ⟨rfl, TR4.out.b⟩
        · have j0' : (j : Int) ≤ 0 := by omega
          have jz : Hid ((nameS NS DS 0 j).size = 0) := by unfold Hid; rw [show j = 0 from by omega, nameS_nil]; rfl
          by_cases j1 : j + 1 < k
          · have j1' : (j : Int) + 1 < k := by omega
            have cut := cuts_at NS DS j k hj false HD.out ((nameS NS DS 0 j).size + (NS j).size + 1) ((nameS NS DS (j + 1) k).size + 1) (by rw [if_pos (by omega), jz.out]) (by rw [if_neg (by omega)])
            have db : (dirB false).size = 1 := rfl
            have da : (dirB true).size = 2 := rfl
            have s1 := cut.b
            have s2 := cut.a
            simp only [Bool.not_false] at s2
            rw [db] at s1
            rw [da] at s2
            have hA : (((nameS NS (flipD DS j) 0 k).size : Int) != ((nameS NS DS 0 k).size : Int) + 1) = false := by rw [bne_eq_false_iff_eq]; omega
            have b1 : ((nameS NS DS 0 k).size : Int) ≤ (((nameS NS DS 0 j).size : Int) + ((NS j).size : Int) + 1) + 1 + (((nameS NS DS (j + 1) k).size : Int) + 1) := by omega
            have b2 : (((nameS NS DS 0 j).size : Int) + ((NS j).size : Int) + 1) + 1 + (((nameS NS DS (j + 1) k).size : Int) + 1) ≤ ((nameS NS DS 0 k).size : Int) := by omega
            have a1 : ((nameS NS (flipD DS j) 0 k).size : Int) ≤ (((nameS NS DS 0 j).size : Int) + ((NS j).size : Int) + 1) + 2 + (((nameS NS DS (j + 1) k).size : Int) + 1) := by omega
            have a2 : (((nameS NS DS 0 j).size : Int) + ((NS j).size : Int) + 1) + 2 + (((nameS NS DS (j + 1) k).size : Int) + 1) ≤ ((nameS NS (flipD DS j) 0 k).size : Int) := by omega
            have wb : IntKind.i64.wrap (((nameS NS DS 0 k).size : Int) - (((nameS NS DS (j + 1) k).size : Int) + 1)) = (((nameS NS DS 0 j).size : Int) + ((NS j).size : Int) + 1) + 1 := by rw [IntKind.wrap_i64]; omega
            have wa : IntKind.i64.wrap (((nameS NS (flipD DS j) 0 k).size : Int) - (((nameS NS DS (j + 1) k).size : Int) + 1)) = (((nameS NS DS 0 j).size : Int) + ((NS j).size : Int) + 1) + 2 := by rw [IntKind.wrap_i64]; omega
            have z0 : 0 ≤ (((nameS NS DS 0 j).size : Int) + ((NS j).size : Int) + 1) := by omega
            have z1 : 0 ≤ (((nameS NS DS 0 j).size : Int) + ((NS j).size : Int) + 1) + 1 ∧ (((nameS NS DS 0 j).size : Int) + ((NS j).size : Int) + 1) + 1 ≤ ((nameS NS DS 0 k).size : Int) := by omega
            have z2 : 0 ≤ (((nameS NS DS 0 j).size : Int) + ((NS j).size : Int) + 1) + 2 ∧ (((nameS NS DS 0 j).size : Int) + ((NS j).size : Int) + 1) + 2 ≤ ((nameS NS (flipD DS j) 0 k).size : Int) := by omega
            have z3 : (((nameS NS DS 0 j).size : Int) + ((NS j).size : Int) + 1) ≤ (((nameS NS DS 0 j).size : Int) + ((NS j).size : Int) + 1) + 1 := by omega
            have z4 : (((nameS NS DS 0 j).size : Int) + ((NS j).size : Int) + 1) ≤ (((nameS NS DS 0 j).size : Int) + ((NS j).size : Int) + 1) + 2 := by omega
            have x1 := cut.x1
            have x2 := cut.x2
            rw [show (nameS NS DS 0 k).size - ((nameS NS DS (j + 1) k).size + 1) = (nameS NS DS 0 j).size + (NS j).size + 1 + 1 from by omega, show (nameS NS (flipD DS j) 0 k).size - ((nameS NS DS (j + 1) k).size + 1) = (nameS NS DS 0 j).size + (NS j).size + 1 + 2 from by omega] at x2
            have x3 := cut.x3
            have x4 := cut.x4
            rw [db] at x3
            simp only [Bool.not_false] at x4
            rw [da] at x4
            clear cut db da s1 s2
            go_wp2_with fail
            go_quiet (fail)
            obtain ⟨wq1, hwq1⟩ : ∃ x, x = wr.drewN nq := ⟨_, rfl⟩
            have TR1 : Hid (Trio w wq1 a7 (some ⟨bd, od, none⟩) (some ⟨bn, on, none⟩) k DS NS) := by rw [hwq1]; exact TR.out.step (below_drewN (Below.refl _ _) _)
            have FL1 : Hid (Flip wq1 bf k j DS) := by rw [hwq1]; exact FL.out.step (below_drewN (Below.refl _ _) _)
            rw [← hwq1]
            clear hwq1 TR FL hcd hcn hcf
            have hcd := TR1.out.cd hj
            have hcn := TR1.out.cn hj
            have hcf := FL1.out.cells j hj
            rw [HD.out] at hcd
            rw [HF.out] at hcf
            go_wp2_with fail
            go_quiet (fail)
            obtain ⟨wq2, hwq2⟩ : ∃ x, x = wq1.drewN nq := ⟨_, rfl⟩
            have TR2 : Hid (Trio w wq2 a7 (some ⟨bd, od, none⟩) (some ⟨bn, on, none⟩) k DS NS) := by rw [hwq2]; exact TR1.out.step (below_drewN (Below.refl _ _) _)
            have FL2 : Hid (Flip wq2 bf k j DS) := by rw [hwq2]; exact FL1.out.step (below_drewN (Below.refl _ _) _)
            rw [← hwq2]
            clear hwq2 TR1 FL1 hcd hcn hcf
            have hcd := TR2.out.cd hj
            have hcn := TR2.out.cn hj
            have hcf := FL2.out.cells j hj
            rw [HD.out] at hcd
            rw [HF.out] at hcf
            go_wp2_with fail
            go_quiet ((go_at_call 12; exact Calls.quiet_of_same (dir12 _ _)))
            obtain ⟨wq3, hwq3⟩ : ∃ x, x = wq2.drewN nq := ⟨_, rfl⟩
            have TR3 : Hid (Trio w wq3 a7 (some ⟨bd, od, none⟩) (some ⟨bn, on, none⟩) k DS NS) := by rw [hwq3]; exact TR2.out.step (below_drewN (Below.refl _ _) _)
            have FL3 : Hid (Flip wq3 bf k j DS) := by rw [hwq3]; exact FL2.out.step (below_drewN (Below.refl _ _) _)
            rw [← hwq3]
            clear hwq3 TR2 FL2 hcd hcn hcf
            have hcd := TR3.out.cd hj
            have hcn := TR3.out.cn hj
            have hcf := FL3.out.cells j hj
            rw [HD.out] at hcd
            rw [HF.out] at hcf
            go_wp2_with fail
            go_quiet ((go_at_call 12; exact Calls.quiet_of_same (dir12 _ _)))
            obtain ⟨wq4, hwq4⟩ : ∃ x, x = wq3.drewN nq := ⟨_, rfl⟩
            have TR4 : Hid (Trio w wq4 a7 (some ⟨bd, od, none⟩) (some ⟨bn, on, none⟩) k DS NS) := by rw [hwq4]; exact TR3.out.step (below_drewN (Below.refl _ _) _)
            have FL4 : Hid (Flip wq4 bf k j DS) := by rw [hwq4]; exact FL3.out.step (below_drewN (Below.refl _ _) _)
            rw [← hwq4]
            clear hwq4 TR3 FL3 hcd hcn hcf
            have hcd := TR4.out.cd hj
            have hcn := TR4.out.cn hj
            have hcf := FL4.out.cells j hj
            rw [HD.out] at hcd
            rw [HF.out] at hcf
            go_wp2_with fail
            go_ret
            exact ⟨rfl, TR4.out.b⟩
          · have j1' : (k : Int) ≤ (j : Int) + 1 := by omega
            have qz : Hid ((nameS NS DS (j + 1) k).size = 0) := by unfold Hid; rw [show k = j + 1 from by omega, nameS_nil]; rfl
            have cut := cuts_at NS DS j k hj false HD.out ((nameS NS DS 0 j).size + (NS j).size + 1) ((nameS NS DS (j + 1) k).size) (by rw [if_pos (by omega), jz.out]) (by rw [if_pos (by omega)]; exact qz.out)
            have db : (dirB false).size = 1 := rfl
            have da : (dirB true).size = 2 := rfl
            have s1 := cut.b
            have s2 := cut.a
            simp only [Bool.not_false] at s2
            rw [db] at s1
            rw [da] at s2
            have hA : (((nameS NS (flipD DS j) 0 k).size : Int) != ((nameS NS DS 0 k).size : Int) + 1) = false := by rw [bne_eq_false_iff_eq]; omega
            have b1 : ((nameS NS DS 0 k).size : Int) ≤ (((nameS NS DS 0 j).size : Int) + ((NS j).size : Int) + 1) + 1 + ((nameS NS DS (j + 1) k).size : Int) := by omega
            have b2 : (((nameS NS DS 0 j).size : Int) + ((NS j).size : Int) + 1) + 1 + ((nameS NS DS (j + 1) k).size : Int) ≤ ((nameS NS DS 0 k).size : Int) := by omega
            have a1 : ((nameS NS (flipD DS j) 0 k).size : Int) ≤ (((nameS NS DS 0 j).size : Int) + ((NS j).size : Int) + 1) + 2 + ((nameS NS DS (j + 1) k).size : Int) := by omega
            have a2 : (((nameS NS DS 0 j).size : Int) + ((NS j).size : Int) + 1) + 2 + ((nameS NS DS (j + 1) k).size : Int) ≤ ((nameS NS (flipD DS j) 0 k).size : Int) := by omega
            have wb : IntKind.i64.wrap (((nameS NS DS 0 k).size : Int) - ((nameS NS DS (j + 1) k).size : Int)) = (((nameS NS DS 0 j).size : Int) + ((NS j).size : Int) + 1) + 1 := by rw [IntKind.wrap_i64]; omega
            have wa : IntKind.i64.wrap (((nameS NS (flipD DS j) 0 k).size : Int) - ((nameS NS DS (j + 1) k).size : Int)) = (((nameS NS DS 0 j).size : Int) + ((NS j).size : Int) + 1) + 2 := by rw [IntKind.wrap_i64]; omega
            have z0 : 0 ≤ (((nameS NS DS 0 j).size : Int) + ((NS j).size : Int) + 1) := by omega
            have z1 : 0 ≤ (((nameS NS DS 0 j).size : Int) + ((NS j).size : Int) + 1) + 1 ∧ (((nameS NS DS 0 j).size : Int) + ((NS j).size : Int) + 1) + 1 ≤ ((nameS NS DS 0 k).size : Int) := by omega
            have z2 : 0 ≤ (((nameS NS DS 0 j).size : Int) + ((NS j).size : Int) + 1) + 2 ∧ (((nameS NS DS 0 j).size : Int) + ((NS j).size : Int) + 1) + 2 ≤ ((nameS NS (flipD DS j) 0 k).size : Int) := by omega
            have z3 : (((nameS NS DS 0 j).size : Int) + ((NS j).size : Int) + 1) ≤ (((nameS NS DS 0 j).size : Int) + ((NS j).size : Int) + 1) + 1 := by omega
            have z4 : (((nameS NS DS 0 j).size : Int) + ((NS j).size : Int) + 1) ≤ (((nameS NS DS 0 j).size : Int) + ((NS j).size : Int) + 1) + 2 := by omega
            have x1 := cut.x1
            have x2 := cut.x2
            rw [show (nameS NS DS 0 k).size - ((nameS NS DS (j + 1) k).size) = (nameS NS DS 0 j).size + (NS j).size + 1 + 1 from by omega, show (nameS NS (flipD DS j) 0 k).size - ((nameS NS DS (j + 1) k).size) = (nameS NS DS 0 j).size + (NS j).size + 1 + 2 from by omega] at x2
            have x3 := cut.x3
            have x4 := cut.x4
            rw [db] at x3
            simp only [Bool.not_false] at x4
            rw [da] at x4
            clear cut db da s1 s2
            go_wp2_with fail
            go_quiet (fail)
            obtain ⟨wq1, hwq1⟩ : ∃ x, x = wr.drewN nq := ⟨_, rfl⟩
            have TR1 : Hid (Trio w wq1 a7 (some ⟨bd, od, none⟩) (some ⟨bn, on, none⟩) k DS NS) := by rw [hwq1]; exact TR.out.step (below_drewN (Below.refl _ _) _)
            have FL1 : Hid (Flip wq1 bf k j DS) := by rw [hwq1]; exact FL.out.step (below_drewN (Below.refl _ _) _)
            rw [← hwq1]
            clear hwq1 TR FL hcd hcn hcf
            have hcd := TR1.out.cd hj
            have hcn := TR1.out.cn hj
            have hcf := FL1.out.cells j hj
            rw [HD.out] at hcd
            rw [HF.out] at hcf
            go_wp2_with fail
            go_quiet (fail)
            obtain ⟨wq2, hwq2⟩ : ∃ x, x = wq1.drewN nq := ⟨_, rfl⟩
            have TR2 : Hid (Trio w wq2 a7 (some ⟨bd, od, none⟩) (some ⟨bn, on, none⟩) k DS NS) := by rw [hwq2]; exact TR1.out.step (below_drewN (Below.refl _ _) _)
            have FL2 : Hid (Flip wq2 bf k j DS) := by rw [hwq2]; exact FL1.out.step (below_drewN (Below.refl _ _) _)
            rw [← hwq2]
            clear hwq2 TR1 FL1 hcd hcn hcf
            have hcd := TR2.out.cd hj
            have hcn := TR2.out.cn hj
            have hcf := FL2.out.cells j hj
            rw [HD.out] at hcd
            rw [HF.out] at hcf
            go_wp2_with fail
            go_quiet ((go_at_call 12; exact Calls.quiet_of_same (dir12 _ _)))
            obtain ⟨wq3, hwq3⟩ : ∃ x, x = wq2.drewN nq := ⟨_, rfl⟩
            have TR3 : Hid (Trio w wq3 a7 (some ⟨bd, od, none⟩) (some ⟨bn, on, none⟩) k DS NS) := by rw [hwq3]; exact TR2.out.step (below_drewN (Below.refl _ _) _)
            have FL3 : Hid (Flip wq3 bf k j DS) := by rw [hwq3]; exact FL2.out.step (below_drewN (Below.refl _ _) _)
            rw [← hwq3]
            clear hwq3 TR2 FL2 hcd hcn hcf
            have hcd := TR3.out.cd hj
            have hcn := TR3.out.cn hj
            have hcf := FL3.out.cells j hj
            rw [HD.out] at hcd
            rw [HF.out] at hcf
            go_wp2_with fail
            go_quiet ((go_at_call 12; exact Calls.quiet_of_same (dir12 _ _)))
            obtain ⟨wq4, hwq4⟩ : ∃ x, x = wq3.drewN nq := ⟨_, rfl⟩
            have TR4 : Hid (Trio w wq4 a7 (some ⟨bd, od, none⟩) (some ⟨bn, on, none⟩) k DS NS) := by rw [hwq4]; exact TR3.out.step (below_drewN (Below.refl _ _) _)
            have FL4 : Hid (Flip wq4 bf k j DS) := by rw [hwq4]; exact FL3.out.step (below_drewN (Below.refl _ _) _)
            rw [← hwq4]
            clear hwq4 TR3 FL3 hcd hcn hcf
            have hcd := TR4.out.cd hj
            have hcn := TR4.out.cn hj
            have hcf := FL4.out.cells j hj
            rw [HD.out] at hcd
            rw [HF.out] at hcf
            go_wp2_with fail
            go_ret
            exact ⟨rfl, TR4.out.b⟩
      · rw [hdj] at hcd
        have HD : Hid (DS j = true) := hdj
        have HF : Hid (flipD DS j j = false) := by unfold Hid flipD; rw [if_pos rfl, hdj]; rfl
        clear hdj
        have hcn := TR.out.cn hj
        have hcf := FL.out.cells j hj
        rw [HF.out] at hcf
        by_cases j0 : 0 < j
        · have j0' : (0 : Int) < j := by omega
          by_cases j1 : j + 1 < k
          · have j1' : (j : Int) + 1 < k := by omega
            have cut := cuts_at NS DS j k hj true HD.out ((nameS NS DS 0 j).size + (NS j).size + 1 + 1) ((nameS NS DS (j + 1) k).size + 1) (by rw [if_neg (by omega)]; omega) (by rw [if_neg (by omega)])
            have db : (dirB true).size = 2 := rfl
            have da : (dirB false).size = 1 := rfl
            have s1 := cut.b
            have s2 := cut.a
            simp only [Bool.not_true] at s2
            rw [db] at s1
            rw [da] at s2
            have hA : (((nameS NS (flipD DS j) 0 k).size : Int) != ((nameS NS DS 0 k).size : Int) + -1) = false := by rw [bne_eq_false_iff_eq]; omega
            have b1 : ((nameS NS DS 0 k).size : Int) ≤ (((nameS NS DS 0 j).size : Int) + ((NS j).size : Int) + 1 + 1) + 2 + (((nameS NS DS (j + 1) k).size : Int) + 1) := by omega
            have b2 : (((nameS NS DS 0 j).size : Int) + ((NS j).size : Int) + 1 + 1) + 2 + (((nameS NS DS (j + 1) k).size : Int) + 1) ≤ ((nameS NS DS 0 k).size : Int) := by omega
            have a1 : ((nameS NS (flipD DS j) 0 k).size : Int) ≤ (((nameS NS DS 0 j).size : Int) + ((NS j).size : Int) + 1 + 1) + 1 + (((nameS NS DS (j + 1) k).size : Int) + 1) := by omega
            have a2 : (((nameS NS DS 0 j).size : Int) + ((NS j).size : Int) + 1 + 1) + 1 + (((nameS NS DS (j + 1) k).size : Int) + 1) ≤ ((nameS NS (flipD DS j) 0 k).size : Int) := by omega
            have wb : IntKind.i64.wrap (((nameS NS DS 0 k).size : Int) - (((nameS NS DS (j + 1) k).size : Int) + 1)) = (((nameS NS DS 0 j).size : Int) + ((NS j).size : Int) + 1 + 1) + 2 := by rw [IntKind.wrap_i64]; omega
            have wa : IntKind.i64.wrap (((nameS NS (flipD DS j) 0 k).size : Int) - (((nameS NS DS (j + 1) k).size : Int) + 1)) = (((nameS NS DS 0 j).size : Int) + ((NS j).size : Int) + 1 + 1) + 1 := by rw [IntKind.wrap_i64]; omega
            have z0 : 0 ≤ (((nameS NS DS 0 j).size : Int) + ((NS j).size : Int) + 1 + 1) := by omega
            have z1 : 0 ≤ (((nameS NS DS 0 j).size : Int) + ((NS j).size : Int) + 1 + 1) + 2 ∧ (((nameS NS DS 0 j).size : Int) + ((NS j).size : Int) + 1 + 1) + 2 ≤ ((nameS NS DS 0 k).size : Int) := by omega
            have z2 : 0 ≤ (((nameS NS DS 0 j).size : Int) + ((NS j).size : Int) + 1 + 1) + 1 ∧ (((nameS NS DS 0 j).size : Int) + ((NS j).size : Int) + 1 + 1) + 1 ≤ ((nameS NS (flipD DS j) 0 k).size : Int) := by omega
            have z3 : (((nameS NS DS 0 j).size : Int) + ((NS j).size : Int) + 1 + 1) ≤ (((nameS NS DS 0 j).size : Int) + ((NS j).size : Int) + 1 + 1) + 2 := by omega
            have z4 : (((nameS NS DS 0 j).size : Int) + ((NS j).size : Int) + 1 + 1) ≤ (((nameS NS DS 0 j).size : Int) + ((NS j).size : Int) + 1 + 1) + 1 := by omega
            have x1 := cut.x1
            have x2 := cut.x2
            rw [show (nameS NS DS 0 k).size - ((nameS NS DS (j + 1) k).size + 1) = (nameS NS DS 0 j).size + (NS j).size + 1 + 1 + 2 from by omega, show (nameS NS (flipD DS j) 0 k).size - ((nameS NS DS (j + 1) k).size + 1) = (nameS NS DS 0 j).size + (NS j).size + 1 + 1 + 1 from by omega] at x2
            have x3 := cut.x3
            have x4 := cut.x4
            rw [db] at x3
            simp only [Bool.not_true] at x4
            rw [da] at x4
            clear cut db da s1 s2
            go_wp2_with fail
            go_quiet (fail)
            obtain ⟨wq1, hwq1⟩ : ∃ x, x = wr.drewN nq := ⟨_, rfl⟩
            have TR1 : Hid (Trio w wq1 a7 (some ⟨bd, od, none⟩) (some ⟨bn, on, none⟩) k DS NS) := by rw [hwq1]; exact TR.out.step (below_drewN (Below.refl _ _) _)
            have FL1 : Hid (Flip wq1 bf k j DS) := by rw [hwq1]; exact FL.out.step (below_drewN (Below.refl _ _) _)
            rw [← hwq1]
            clear hwq1 TR FL hcd hcn hcf
            have hcd := TR1.out.cd hj
            have hcn := TR1.out.cn hj
            have hcf := FL1.out.cells j hj
            rw [HD.out] at hcd
            rw [HF.out] at hcf
            go_wp2_with fail
            go_quiet (fail)
            obtain ⟨wq2, hwq2⟩ : ∃ x, x = wq1.drewN nq := ⟨_, rfl⟩
            have TR2 : Hid (Trio w wq2 a7 (some ⟨bd, od, none⟩) (some ⟨bn, on, none⟩) k DS NS) := by rw [hwq2]; exact TR1.out.step (below_drewN (Below.refl _ _) _)
            have FL2 : Hid (Flip wq2 bf k j DS) := by rw [hwq2]; exact FL1.out.step (below_drewN (Below.refl _ _) _)
            rw [← hwq2]
            clear hwq2 TR1 FL1 hcd hcn hcf
            have hcd := TR2.out.cd hj
            have hcn := TR2.out.cn hj
            have hcf := FL2.out.cells j hj
            rw [HD.out] at hcd
            rw [HF.out] at hcf
            go_wp2_with fail
            go_quiet ((go_at_call 12; exact Calls.quiet_of_same (dir12 _ _)))
            obtain ⟨wq3, hwq3⟩ : ∃ x, x = wq2.drewN nq := ⟨_, rfl⟩
            have TR3 : Hid (Trio w wq3 a7 (some ⟨bd, od, none⟩) (some ⟨bn, on, none⟩) k DS NS) := by rw [hwq3]; exact TR2.out.step (below_drewN (Below.refl _ _) _)
            have FL3 : Hid (Flip wq3 bf k j DS) := by rw [hwq3]; exact FL2.out.step (below_drewN (Below.refl _ _) _)
            rw [← hwq3]
            clear hwq3 TR2 FL2 hcd hcn hcf
            have hcd := TR3.out.cd hj
            have hcn := TR3.out.cn hj
            have hcf := FL3.out.cells j hj
            rw [HD.out] at hcd
            rw [HF.out] at hcf
            go_wp2_with fail
            go_quiet ((go_at_call 12; exact Calls.quiet_of_same (dir12 _ _)))
            obtain ⟨wq4, hwq4⟩ : ∃ x, x = wq3.drewN nq := ⟨_, rfl⟩
            have TR4 : Hid (Trio w wq4 a7 (some ⟨bd, od, none⟩) (some ⟨bn, on, none⟩) k DS NS) := by rw [hwq4]; exact TR3.out.step (below_drewN (Below.refl _ _) _)
            have FL4 : Hid (Flip wq4 bf k j DS) := by rw [hwq4]; exact FL3.out.step (below_drewN (Below.refl _ _) _)
            rw [← hwq4]
            clear hwq4 TR3 FL3 hcd hcn hcf
            have hcd := TR4.out.cd hj
            have hcn := TR4.out.cn hj
            have hcf := FL4.out.cells j hj
            rw [HD.out] at hcd
            rw [HF.out] at hcf
            go_wp2_with fail
            go_ret
            exact ⟨rfl, TR4.out.b⟩
          · have j1' : (k : Int) ≤ (j : Int) + 1 := by omega
            have qz : Hid ((nameS NS DS (j + 1) k).size = 0) := by unfold Hid; rw [show k = j + 1 from by omega, nameS_nil]; rfl
            have cut := cuts_at NS DS j k hj true HD.out ((nameS NS DS 0 j).size + (NS j).size + 1 + 1) ((nameS NS DS (j + 1) k).size) (by rw [if_neg (by omega)]; omega) (by rw [if_pos (by omega)]; exact qz.out)
            have db : (dirB true).size = 2 := rfl
            have da : (dirB false).size = 1 := rfl
            have s1 := cut.b
            have s2 := cut.a
            simp only [Bool.not_true] at s2
            rw [db] at s1
            rw [da] at s2
            have hA : (((nameS NS (flipD DS j) 0 k).size : Int) != ((nameS NS DS 0 k).size : Int) + -1) = false := by rw [bne_eq_false_iff_eq]; omega
            have b1 : ((nameS NS DS 0 k).size : Int) ≤ (((nameS NS DS 0 j).size : Int) + ((NS j).size : Int) + 1 + 1) + 2 + ((nameS NS DS (j + 1) k).size : Int) := by omega
            have b2 : (((nameS NS DS 0 j).size : Int) + ((NS j).size : Int) + 1 + 1) + 2 + ((nameS NS DS (j + 1) k).size : Int) ≤ ((nameS NS DS 0 k).size : Int) := by omega
            have a1 : ((nameS NS (flipD DS j) 0 k).size : Int) ≤ (((nameS NS DS 0 j).size : Int) + ((NS j).size : Int) + 1 + 1) + 1 + ((nameS NS DS (j + 1) k).size : Int) := by omega
            have a2 : (((nameS NS DS 0 j).size : Int) + ((NS j).size : Int) + 1 + 1) + 1 + ((nameS NS DS (j + 1) k).size : Int) ≤ ((nameS NS (flipD DS j) 0 k).size : Int) := by omega
            have wb : IntKind.i64.wrap (((nameS NS DS 0 k).size : Int) - ((nameS NS DS (j + 1) k).size : Int)) = (((nameS NS DS 0 j).size : Int) + ((NS j).size : Int) + 1 + 1) + 2 := by rw [IntKind.wrap_i64]; omega
            have wa : IntKind.i64.wrap (((nameS NS (flipD DS j) 0 k).size : Int) - ((nameS NS DS (j + 1) k).size : Int)) = (((nameS NS DS 0 j).size : Int) + ((NS j).size : Int) + 1 + 1) + 1 := by rw [IntKind.wrap_i64]; omega
            have z0 : 0 ≤ (((nameS NS DS 0 j).size : Int) + ((NS j).size : Int) + 1 + 1) := by omega
            have z1 : 0 ≤ (((nameS NS DS 0 j).size : Int) + ((NS j).size : Int) + 1 + 1) + 2 ∧ (((nameS NS DS 0 j).size : Int) + ((NS j).size : Int) + 1 + 1) + 2 ≤ ((nameS NS DS 0 k).size : Int) := by omega
            have z2 : 0 ≤ (((nameS NS DS 0 j).size : Int) + ((NS j).size : Int) + 1 + 1) + 1 ∧ (((nameS NS DS 0 j).size : Int) + ((NS j).size : Int) + 1 + 1) + 1 ≤ ((nameS NS (flipD DS j) 0 k).size : Int) := by omega
            have z3 : (((nameS NS DS 0 j).size : Int) + ((NS j).size : Int) + 1 + 1) ≤ (((nameS NS DS 0 j).size : Int) + ((NS j).size : Int) + 1 + 1) + 2 := by omega
            have z4 : (((nameS NS DS 0 j).size : Int) + ((NS j).size : Int) + 1 + 1) ≤ (((nameS NS DS 0 j).size : Int) + ((NS j).size : Int) + 1 + 1) + 1 := by omega
            have x1 := cut.x1
            have x2 := cut.x2
            rw [show (nameS NS DS 0 k).size - ((nameS NS DS (j + 1) k).size) = (nameS NS DS 0 j).size + (NS j).size + 1 + 1 + 2 from by omega, show (nameS NS (flipD DS j) 0 k).size - ((nameS NS DS (j + 1) k).size) = (nameS NS DS 0 j).size + (NS j).size + 1 + 1 + 1 from by omega] at x2
            have x3 := cut.x3
            have x4 := cut.x4
            rw [db] at x3
            simp only [Bool.not_true] at x4
            rw [da] at x4
            clear cut db da s1 s2
            go_wp2_with fail
            go_quiet (fail)
            obtain ⟨wq1, hwq1⟩ : ∃ x, x = wr.drewN nq := ⟨_, rfl⟩
            have TR1 : Hid (Trio w wq1 a7 (some ⟨bd, od, none⟩) (some ⟨bn, on, none⟩) k DS NS) := by rw [hwq1]; exact TR.out.step (below_drewN (Below.refl _ _) _)
            have FL1 : Hid (Flip wq1 bf k j DS) := by rw [hwq1]; exact FL.out.step (below_drewN (Below.refl _ _) _)
            rw [← hwq1]
            clear hwq1 TR FL hcd hcn hcf
            have hcd := TR1.out.cd hj
            have hcn := TR1.out.cn hj
            have hcf := FL1.out.cells j hj
            rw [HD.out] at hcd
            rw [HF.out] at hcf
            go_wp2_with fail
            go_quiet (fail)
            obtain ⟨wq2, hwq2⟩ : ∃ x, x = wq1.drewN nq := ⟨_, rfl⟩
            have TR2 : Hid (Trio w wq2 a7 (some ⟨bd, od, none⟩) (some ⟨bn, on, none⟩) k DS NS) := by rw [hwq2]; exact TR1.out.step (below_drewN (Below.refl _ _) _)
            have FL2 : Hid (Flip wq2 bf k j DS) := by rw [hwq2]; exact FL1.out.step (below_drewN (Below.refl _ _) _)
            rw [← hwq2]
            clear hwq2 TR1 FL1 hcd hcn hcf
            have hcd := TR2.out.cd hj
            have hcn := TR2.out.cn hj
            have hcf := FL2.out.cells j hj
            rw [HD.out] at hcd
            rw [HF.out] at hcf
            go_wp2_with fail
            go_quiet ((go_at_call 12; exact Calls.quiet_of_same (dir12 _ _)))
            obtain ⟨wq3, hwq3⟩ : ∃ x, x = wq2.drewN nq := ⟨_, rfl⟩
            have TR3 : Hid (Trio w wq3 a7 (some ⟨bd, od, none⟩) (some ⟨bn, on, none⟩) k DS NS) := by rw [hwq3]; exact TR2.out.step (below_drewN (Below.refl _ _) _)
            have FL3 : Hid (Flip wq3 bf k j DS) := by rw [hwq3]; exact FL2.out.step (below_drewN (Below.refl _ _) _)
            rw [← hwq3]
            clear hwq3 TR2 FL2 hcd hcn hcf
            have hcd := TR3.out.cd hj
            have hcn := TR3.out.cn hj
            have hcf := FL3.out.cells j hj
            rw [HD.out] at hcd
            rw [HF.out] at hcf
            go_wp2_with fail
            go_quiet ((go_at_call 12; exact Calls.quiet_of_same (dir12 _ _)))
            obtain ⟨wq4, hwq4⟩ : ∃ x, x = wq3.drewN nq := ⟨_, rfl⟩
            have TR4 : Hid (Trio w wq4 a7 (some ⟨bd, od, none⟩) (some ⟨bn, on, none⟩) k DS NS) := by rw [hwq4]; exact TR3.out.step (below_drewN (Below.refl _ _) _)
            have FL4 : Hid (Flip wq4 bf k j DS) := by rw [hwq4]; exact FL3.out.step (below_drewN (Below.refl _ _) _)
            rw [← hwq4]
            clear hwq4 TR3 FL3 hcd hcn hcf
            have hcd := TR4.out.cd hj
            have hcn := TR4.out.cn hj
            have hcf := FL4.out.cells j hj
            rw [HD.out] at hcd
            rw [HF.out] at hcf
            go_wp2_with fail
            go_ret
            exact ⟨rfl, TR4.out.b⟩
        · have j0' : (j : Int) ≤ 0 := by omega
          have jz : Hid ((nameS NS DS 0 j).size = 0) := by unfold Hid; rw [show j = 0 from by omega, nameS_nil]; rfl
          by_cases j1 : j + 1 < k
          · have j1' : (j : Int) + 1 < k := by omega
            have cut := cuts_at NS DS j k hj true HD.out ((nameS NS DS 0 j).size + (NS j).size + 1) ((nameS NS DS (j + 1) k).size + 1) (by rw [if_pos (by omega), jz.out]) (by rw [if_neg (by omega)])
            have db : (dirB true).size = 2 := rfl
            have da : (dirB false).size = 1 := rfl
            have s1 := cut.b
            have s2 := cut.a
            simp only [Bool.not_true] at s2
            rw [db] at s1
            rw [da] at s2
            have hA : (((nameS NS (flipD DS j) 0 k).size : Int) != ((nameS NS DS 0 k).size : Int) + -1) = false := by rw [bne_eq_false_iff_eq]; omega
            have b1 : ((nameS NS DS 0 k).size : Int) ≤ (((nameS NS DS 0 j).size : Int) + ((NS j).size : Int) + 1) + 2 + (((nameS NS DS (j + 1) k).size : Int) + 1) := by omega
            have b2 : (((nameS NS DS 0 j).size : Int) + ((NS j).size : Int) + 1) + 2 + (((nameS NS DS (j + 1) k).size : Int) + 1) ≤ ((nameS NS DS 0 k).size : Int) := by omega
            have a1 : ((nameS NS (flipD DS j) 0 k).size : Int) ≤ (((nameS NS DS 0 j).size : Int) + ((NS j).size : Int) + 1) + 1 + (((nameS NS DS (j + 1) k).size : Int) + 1) := by omega
            have a2 : (((nameS NS DS 0 j).size : Int) + ((NS j).size : Int) + 1) + 1 + (((nameS NS DS (j + 1) k).size : Int) + 1) ≤ ((nameS NS (flipD DS j) 0 k).size : Int) := by omega
            have wb : IntKind.i64.wrap (((nameS NS DS 0 k).size : Int) - (((nameS NS DS (j + 1) k).size : Int) + 1)) = (((nameS NS DS 0 j).size : Int) + ((NS j).size : Int) + 1) + 2 := by rw [IntKind.wrap_i64]; omega
            have wa : IntKind.i64.wrap (((nameS NS (flipD DS j) 0 k).size : Int) - (((nameS NS DS (j + 1) k).size : Int) + 1)) = (((nameS NS DS 0 j).size : Int) + ((NS j).size : Int) + 1) + 1 := by rw [IntKind.wrap_i64]; omega
            have z0 : 0 ≤ (((nameS NS DS 0 j).size : Int) + ((NS j).size : Int) + 1) := by omega
            have z1 : 0 ≤ (((nameS NS DS 0 j).size : Int) + ((NS j).size : Int) + 1) + 2 ∧ (((nameS NS DS 0 j).size : Int) + ((NS j).size : Int) + 1) + 2 ≤ ((nameS NS DS 0 k).size : Int) := by omega
            have z2 : 0 ≤ (((nameS NS DS 0 j).size : Int) + ((NS j).size : Int) + 1) + 1 ∧ (((nameS NS DS 0 j).size : Int) + ((NS j).size : Int) + 1) + 1 ≤ ((nameS NS (flipD DS j) 0 k).size : Int) := by omega
            have z3 : (((nameS NS DS 0 j).size : Int) + ((NS j).size : Int) + 1) ≤ (((nameS NS DS 0 j).size : Int) + ((NS j).size : Int) + 1) + 2 := by omega
            have z4 : (((nameS NS DS 0 j).size : Int) + ((NS j).size : Int) + 1) ≤ (((nameS NS DS 0 j).size : Int) + ((NS j).size : Int) + 1) + 1 := by omega
            have x1 := cut.x1
            have x2 := cut.x2
            rw [show (nameS NS DS 0 k).size - ((nameS NS DS (j + 1) k).size + 1) = (nameS NS DS 0 j).size + (NS j).size + 1 + 2 from by omega, show (nameS NS (flipD DS j) 0 k).size - ((nameS NS DS (j + 1) k).size + 1) = (nameS NS DS 0 j).size + (NS j).size + 1 + 1 from by omega] at x2
            have x3 := cut.x3
            have x4 := cut.x4
            rw [db] at x3
            simp only [Bool.not_true] at x4
            rw [da] at x4
            clear cut db da s1 s2
            go_wp2_with fail
            go_quiet (fail)
            obtain ⟨wq1, hwq1⟩ : ∃ x, x = wr.drewN nq := ⟨_, rfl⟩
            have TR1 : Hid (Trio w wq1 a7 (some ⟨bd, od, none⟩) (some ⟨bn, on, none⟩) k DS NS) := by rw [hwq1]; exact TR.out.step (below_drewN (Below.refl _ _) _)
            have FL1 : Hid (Flip wq1 bf k j DS) := by rw [hwq1]; exact FL.out.step (below_drewN (Below.refl _ _) _)
            rw [← hwq1]
            clear hwq1 TR FL hcd hcn hcf
            have hcd := TR1.out.cd hj
            have hcn := TR1.out.cn hj
            have hcf := FL1.out.cells j hj
            rw [HD.out] at hcd
            rw [HF.out] at hcf
            go_wp2_with fail
            go_quiet (fail)
            obtain ⟨wq2, hwq2⟩ : ∃ x, x = wq1.drewN nq := ⟨_, rfl⟩
            have TR2 : Hid (Trio w wq2 a7 (some ⟨bd, od, none⟩) (some ⟨bn, on, none⟩) k DS NS) := by rw [hwq2]; exact TR1.out.step (below_drewN (Below.refl _ _) _)
            have FL2 : Hid (Flip wq2 bf k j DS) := by rw [hwq2]; exact FL1.out.step (below_drewN (Below.refl _ _) _)
            rw [← hwq2]
            clear hwq2 TR1 FL1 hcd hcn hcf
            have hcd := TR2.out.cd hj
            have hcn := TR2.out.cn hj
            have hcf := FL2.out.cells j hj
            rw [HD.out] at hcd
            rw [HF.out] at hcf
            go_wp2_with fail
            go_quiet ((go_at_call 12; exact Calls.quiet_of_same (dir12 _ _)))
            obtain ⟨wq3, hwq3⟩ : ∃ x, x = wq2.drewN nq := ⟨_, rfl⟩
            have TR3 : Hid (Trio w wq3 a7 (some ⟨bd, od, none⟩) (some ⟨bn, on, none⟩) k DS NS) := by rw [hwq3]; exact TR2.out.step (below_drewN (Below.refl _ _) _)
            have FL3 : Hid (Flip wq3 bf k j DS) := by rw [hwq3]; exact FL2.out.step (below_drewN (Below.refl _ _) _)
            rw [← hwq3]
            clear hwq3 TR2 FL2 hcd hcn hcf
            have hcd := TR3.out.cd hj
            have hcn := TR3.out.cn hj
            have hcf := FL3.out.cells j hj
            rw [HD.out] at hcd
            rw [HF.out] at hcf
            go_wp2_with fail
            go_quiet ((go_at_call 12; exact Calls.quiet_of_same (dir12 _ _)))
            obtain ⟨wq4, hwq4⟩ : ∃ x, x = wq3.drewN nq := ⟨_, rfl⟩
            have TR4 : Hid (Trio w wq4 a7 (some ⟨bd, od, none⟩) (some ⟨bn, on, none⟩) k DS NS) := by rw [hwq4]; exact TR3.out.step (below_drewN (Below.refl _ _) _)
            have FL4 : Hid (Flip wq4 bf k j DS) := by rw [hwq4]; exact FL3.out.step (below_drewN (Below.refl _ _) _)
            rw [← hwq4]
            clear hwq4 TR3 FL3 hcd hcn hcf
            have hcd := TR4.out.cd hj
            have hcn := TR4.out.cn hj
            have hcf := FL4.out.cells j hj
            rw [HD.out] at hcd
            rw [HF.out] at hcf
            go_wp2_with fail
            go_ret
            exact ⟨rfl, TR4.out.b⟩
          · have j1' : (k : Int) ≤ (j : Int) + 1 := by omega
            have qz : Hid ((nameS NS DS (j + 1) k).size = 0) := by unfold Hid; rw [show k = j + 1 from by omega, nameS_nil]; rfl
            have cut := cuts_at NS DS j k hj true HD.out ((nameS NS DS 0 j).size + (NS j).size + 1) ((nameS NS DS (j + 1) k).size) (by rw [if_pos (by omega), jz.out]) (by rw [if_pos (by omega)]; exact qz.out)
            have db : (dirB true).size = 2 := rfl
            have da : (dirB false).size = 1 := rfl
            have s1 := cut.b
            have s2 := cut.a
            simp only [Bool.not_true] at s2
            rw [db] at s1
            rw [da] at s2
            have hA : (((nameS NS (flipD DS j) 0 k).size : Int) != ((nameS NS DS 0 k).size : Int) + -1) = false := by rw [bne_eq_false_iff_eq]; omega
            have b1 : ((nameS NS DS 0 k).size : Int) ≤ (((nameS NS DS 0 j).size : Int) + ((NS j).size : Int) + 1) + 2 + ((nameS NS DS (j + 1) k).size : Int) := by omega
            have b2 : (((nameS NS DS 0 j).size : Int) + ((NS j).size : Int) + 1) + 2 + ((nameS NS DS (j + 1) k).size : Int) ≤ ((nameS NS DS 0 k).size : Int) := by omega
            have a1 : ((nameS NS (flipD DS j) 0 k).size : Int) ≤ (((nameS NS DS 0 j).size : Int) + ((NS j).size : Int) + 1) + 1 + ((nameS NS DS (j + 1) k).size : Int) := by omega
            have a2 : (((nameS NS DS 0 j).size : Int) + ((NS j).size : Int) + 1) + 1 + ((nameS NS DS (j + 1) k).size : Int) ≤ ((nameS NS (flipD DS j) 0 k).size : Int) := by omega
            have wb : IntKind.i64.wrap (((nameS NS DS 0 k).size : Int) - ((nameS NS DS (j + 1) k).size : Int)) = (((nameS NS DS 0 j).size : Int) + ((NS j).size : Int) + 1) + 2 := by rw [IntKind.wrap_i64]; omega
            have wa : IntKind.i64.wrap (((nameS NS (flipD DS j) 0 k).size : Int) - ((nameS NS DS (j + 1) k).size : Int)) = (((nameS NS DS 0 j).size : Int) + ((NS j).size : Int) + 1) + 1 := by rw [IntKind.wrap_i64]; omega
            have z0 : 0 ≤ (((nameS NS DS 0 j).size : Int) + ((NS j).size : Int) + 1) := by omega
            have z1 : 0 ≤ (((nameS NS DS 0 j).size : Int) + ((NS j).size : Int) + 1) + 2 ∧ (((nameS NS DS 0 j).size : Int) + ((NS j).size : Int) + 1) + 2 ≤ ((nameS NS DS 0 k).size : Int) := by omega
            have z2 : 0 ≤ (((nameS NS DS 0 j).size : Int) + ((NS j).size : Int) + 1) + 1 ∧ (((nameS NS DS 0 j).size : Int) + ((NS j).size : Int) + 1) + 1 ≤ ((nameS NS (flipD DS j) 0 k).size : Int) := by omega
            have z3 : (((nameS NS DS 0 j).size : Int) + ((NS j).size : Int) + 1) ≤ (((nameS NS DS 0 j).size : Int) + ((NS j).size : Int) + 1) + 2 := by omega
            have z4 : (((nameS NS DS 0 j).size : Int) + ((NS j).size : Int) + 1) ≤ (((nameS NS DS 0 j).size : Int) + ((NS j).size : Int) + 1) + 1 := by omega
            have x1 := cut.x1
            have x2 := cut.x2
            rw [show (nameS NS DS 0 k).size - ((nameS NS DS (j + 1) k).size) = (nameS NS DS 0 j).size + (NS j).size + 1 + 2 from by omega, show (nameS NS (flipD DS j) 0 k).size - ((nameS NS DS (j + 1) k).size) = (nameS NS DS 0 j).size + (NS j).size + 1 + 1 from by omega] at x2
            have x3 := cut.x3
            have x4 := cut.x4
            rw [db] at x3
            simp only [Bool.not_true] at x4
            rw [da] at x4
            clear cut db da s1 s2
            go_wp2_with fail
            go_quiet (fail)
            obtain ⟨wq1, hwq1⟩ : ∃ x, x = wr.drewN nq := ⟨_, rfl⟩
            have TR1 : Hid (Trio w wq1 a7 (some ⟨bd, od, none⟩) (some ⟨bn, on, none⟩) k DS NS) := by rw [hwq1]; exact TR.out.step (below_drewN (Below.refl _ _) _)
            have FL1 : Hid (Flip wq1 bf k j DS) := by rw [hwq1]; exact FL.out.step (below_drewN (Below.refl _ _) _)
            rw [← hwq1]
            clear hwq1 TR FL hcd hcn hcf
            have hcd := TR1.out.cd hj
            have hcn := TR1.out.cn hj
            have hcf := FL1.out.cells j hj
            rw [HD.out] at hcd
            rw [HF.out] at hcf
            go_wp2_with fail
            go_quiet (fail)
            obtain ⟨wq2, hwq2⟩ : ∃ x, x = wq1.drewN nq := ⟨_, rfl⟩
            have TR2 : Hid (Trio w wq2 a7 (some ⟨bd, od, none⟩) (some ⟨bn, on, none⟩) k DS NS) := by rw [hwq2]; exact TR1.out.step (below_drewN (Below.refl _ _) _)
            have FL2 : Hid (Flip wq2 bf k j DS) := by rw [hwq2]; exact FL1.out.step (below_drewN (Below.refl _ _) _)
            rw [← hwq2]
            clear hwq2 TR1 FL1 hcd hcn hcf
            have hcd := TR2.out.cd hj
            have hcn := TR2.out.cn hj
            have hcf := FL2.out.cells j hj
            rw [HD.out] at hcd
            rw [HF.out] at hcf
            go_wp2_with fail
            go_quiet ((go_at_call 12; exact Calls.quiet_of_same (dir12 _ _)))
            obtain ⟨wq3, hwq3⟩ : ∃ x, x = wq2.drewN nq := ⟨_, rfl⟩
            have TR3 : Hid (Trio w wq3 a7 (some ⟨bd, od, none⟩) (some ⟨bn, on, none⟩) k DS NS) := by rw [hwq3]; exact TR2.out.step (below_drewN (Below.refl _ _) _)
            have FL3 : Hid (Flip wq3 bf k j DS) := by rw [hwq3]; exact FL2.out.step (below_drewN (Below.refl _ _) _)
            rw [← hwq3]
            clear hwq3 TR2 FL2 hcd hcn hcf
            have hcd := TR3.out.cd hj
            have hcn := TR3.out.cn hj
            have hcf := FL3.out.cells j hj
            rw [HD.out] at hcd
            rw [HF.out] at hcf
            go_wp2_with fail
            go_quiet ((go_at_call 12; exact Calls.quiet_of_same (dir12 _ _)))
            obtain ⟨wq4, hwq4⟩ : ∃ x, x = wq3.drewN nq := ⟨_, rfl⟩
            have TR4 : Hid (Trio w wq4 a7 (some ⟨bd, od, none⟩) (some ⟨bn, on, none⟩) k DS NS) := by rw [hwq4]; exact TR3.out.step (below_drewN (Below.refl _ _) _)
            have FL4 : Hid (Flip wq4 bf k j DS) := by rw [hwq4]; exact FL3.out.step (below_drewN (Below.refl _ _) _)
            rw [← hwq4]
            clear hwq4 TR3 FL3 hcd hcn hcf
            have hcd := TR4.out.cd hj
            have hcn := TR4.out.cn hj
            have hcf := FL4.out.cells j hj
            rw [HD.out] at hcd
            rw [HF.out] at hcf
            go_wp2_with fail
            go_ret
            exact ⟨rfl, TR4.out.b⟩
end Go.Proofs.Qxb6626462a
