import Derived.Test.Qxb6626462aPlain2
import Derived.Deep.QuietTactic
import Derived.BigQuiet
import Derived.WalkSmall
namespace Go.Proofs.Qxb6626462a
open Go.RowKit

def Yes (w : World) (e : Ending) (w' : World) : Prop := e = .returned (.bool true) ∧ Below w.heap.size w w'

/-- What the arguments hold. -/
structure Args (w : World) (ap ad an : Option Addr) (np cp nd cd nn cn : Nat) (PA : Nat → Option Addr) (PL PC : Nat → Nat) (PS : Nat → Nat → ByteArray) (DS : Nat → Bool) (NS : Nat → ByteArray) : Prop where
  hnp : np ≤ 9223372036854775807
  hnd : nd ≤ 9223372036854775807
  hnn : nn ≤ 9223372036854775807
  hap : ap = none → np = 0 ∧ cp = 0
  had : ad = none → nd = 0 ∧ cd = 0
  han : an = none → nn = 0 ∧ cn = 0
  hp : At w w.heap.size ap np (fun i => .slice (PA i) (PL i) (PC i))
  hi : ∀ i, i < np → PL i ≤ 9223372036854775807 ∧ At w w.heap.size (PA i) (PL i) (fun j => .string (PS i j)) ∧ (∀ j, j < PL i → (PS i j).size ≤ 9223372036854775807)
  hz : ∀ i, i < np → PA i = none → PL i = 0 ∧ PC i = 0
  hd : At w w.heap.size ad nd (fun i => .bool (DS i))
  hs : At w w.heap.size an nn (fun i => .string (NS i))
  hl : ∀ i, i < nn → (NS i).size ≤ 9223372036854775807

theorem dirB_le (d : Bool) : (dirB d).size ≤ 2 := by cases d <;> decide

set_option maxHeartbeats 1000000 in
theorem law3 (w : World) (ap ad an : Option Addr) (np cp nd cd nn cn : Nat) (x : Int) (PA : Nat → Option Addr) (PL PC : Nat → Nat) (PS : Nat → Nat → ByteArray) (DS : Nat → Bool) (NS : Nat → ByteArray)
    (h : Args w ap ad an np cp nd cd nn cn PA PL PC PS DS NS) :
    Calls Try.prog 3 #[.slice ap np cp, .slice ad nd cd, .slice an nn cn, .int .i64 x] w (Yes w) := by
  have H5 : Hid (Calls Try.prog 5 #[.slice ap np cp, .slice ad nd cd, .slice an nn cn, .int .i64 x] w (Told w (Small np nd nn PL NS))) := bytes5 w _ ap ad an np cp nd cd nn cn x PA PL PC PS NS h.hnp h.hnd h.hnn h.hp h.hi h.hs h.hl
  have HA : Hid (Args w ap ad an np cp nd cd nn cn PA PL PC PS DS NS) := h
  clear h
  go_enter Try.func3, Try.ntmps3
  go_wp2_with (go_at_call 5; refine H5.out.mono ?_)
  rintro e w' ⟨r, rfl, rfl, hr⟩
  clear H5
  cases r
  · go_wp2_with fail
    go_ret
    exact ⟨rfl, Below.refl _ _⟩
  obtain ⟨hnp, hnd, hnn, hpl, hsl⟩ := hr rfl
  have HPL : Hid (∀ i, i < np → PL i ≤ 1048576) := hpl
  have HSL : Hid (∀ i, i < nn → (NS i).size ≤ 1048576) := hsl
  clear hr hpl hsl
  have H6 : Hid (Calls Try.prog 6 #[.slice ap np cp, .slice ad nd cd, .slice an nn cn] w' (Told w' True)) := size6 w' _ ap ad an np cp nd cd nn cn PA PL PC PS NS hnp hnd hnn HA.out.hp HA.out.hi HA.out.hs HA.out.hl
  go_wp2_with (go_at_call 6; refine H6.out.mono ?_)
  rintro e w ⟨r, rfl, rfl, _⟩
  clear H6
  cases r
  · go_wp2_with fail
    go_ret
    exact ⟨rfl, Below.refl _ _⟩
  by_cases e1 : nd = nn
  rotate_left
  · have e1' : ((nd : Int) != nn) = true := by rw [bne_iff_ne]; omega
    go_wp2_with fail
    go_ret
    exact ⟨rfl, Below.refl _ _⟩
  subst e1
  by_cases e2 : np = nd
  rotate_left
  · have e2' : ((np : Int) != nd) = true := by rw [bne_iff_ne]; omega
    go_wp2_with fail
    go_ret
    exact ⟨rfl, Below.refl _ _⟩
  subst e2
  by_cases e3 : x < 0
  · go_wp2_with fail
    go_ret
    exact ⟨rfl, Below.refl _ _⟩
  by_cases e4 : np < x
  · go_wp2_with fail
    go_ret
    exact ⟨rfl, Below.refl _ _⟩
  obtain ⟨c, rfl⟩ := Int.eq_ofNat_of_zero_le (by omega : 0 ≤ x)
  have hc : c ≤ np := by omega
  clear e3 e4
  have H7 : Hid (Calls Try.prog 7 #[.slice ap np cp] w (CopiedPaths w np)) := copy7 w ap np cp PA PL PC PS hnp HA.out.hap HA.out.hp (fun i hi => ⟨HPL.out i hi, HA.out.hz i hi, (HA.out.hi i hi).2.1⟩)
  go_wp2_with (go_at_call 7; refine H7.out.mono ?_)
  rintro e w1 ⟨v, rfl, hv, hb1⟩
  obtain ⟨a7, rfl, k7⟩ := slAt_of hv
  have K7 : Hid (SlAt w1 a7 np) := k7
  have B1 : Hid (Below w.heap.size w w1) := hb1
  clear hv k7 hb1 H7
  have H8 : Hid (Calls Try.prog 8 #[.slice ad np cd] w1 (Copied w1 4 np (fun i => .bool (DS i)))) := copy8 w1 ad np cd DS hnp HA.out.had (HA.out.hd.below B1.out B1.out.size)
  go_wp2_with (go_at_call 8; refine H8.out.mono ?_)
  rintro e w2 ⟨v, rfl, hv, hb2⟩
  obtain ⟨a8, rfl, k8⟩ := hv.at_
  have K8 : Hid (At w2 w2.heap.size a8 np (fun i => .bool (DS i))) := k8
  have K7' : Hid (SlAt w2 a7 np) := K7.out.below hb2
  have B2 : Hid (Below w.heap.size w w2) := B1.out.trans (hb2.mono B1.out.size)
  clear hv k8 hb2 H8 K7 B1
  have H9 : Hid (Calls Try.prog 9 #[.slice an np cn] w2 (Copied w2 9 np (fun i => .string (NS i)))) := copy9 w2 an np cn NS hnp HA.out.han (HA.out.hs.below B2.out B2.out.size)
  go_wp2_with (go_at_call 9; refine H9.out.mono ?_)
  rintro e w3 ⟨v, rfl, hv, hb3⟩
  obtain ⟨a9, rfl, k9⟩ := hv.at_
  have T3 : Hid (Trio w w3 a7 a8 a9 np DS NS) := ⟨K7'.out.below hb3, K8.out.below hb3 hb3.size, k9, B2.out.trans (hb3.mono B2.out.size), hnp, HSL.out⟩
  clear hv k9 hb3 H9 K7' K8 B2 HA HPL HSL
  have P1 : Hid (Calls Try.prog 10 #[.slice a7 np np, .slice a8 np np, .slice a9 np np, .int .i64 0, .int .i64 np] w3 (Parted w3 np 0 np a8 a9)) := partI T3.out 0 np (by omega) (by omega)
  go_wp2_with (go_at_call 10; refine P1.out.mono ?_)
  rintro e w4 ⟨b4, rfl, k4, hb4⟩
  have T4 : Hid (Trio w w4 a7 a8 a9 np DS NS) := T3.out.step hb4
  have N1 : Hid (Calls Try.prog 11 #[.pointer (some ⟨b4, 0, none⟩)] w4 (Spelt w4 (nameS NS DS 0 np))) := nameI T4.out (by omega) k4
  clear k4 hb4 P1 T3
  go_wp2_with (go_at_call 11; refine N1.out.mono ?_)
  rintro e w5 ⟨rfl, hb5⟩
  have T5 : Hid (Trio w w5 a7 a8 a9 np DS NS) := T4.out.step hb5
  clear hb5 N1 T4
  have P2 : Hid (Calls Try.prog 10 #[.slice a7 np np, .slice a8 np np, .slice a9 np np, .int .i64 0, .int .i64 c] w5 (Parted w5 np 0 c a8 a9)) := partI T5.out 0 c (by omega) (by omega)
  go_wp2_with (go_at_call 10; refine P2.out.mono ?_)
  rintro e w6 ⟨b6, rfl, k6, hb6⟩
  have T6 : Hid (Trio w w6 a7 a8 a9 np DS NS) := T5.out.step hb6
  have N2 : Hid (Calls Try.prog 11 #[.pointer (some ⟨b6, 0, none⟩)] w6 (Spelt w6 (nameS NS DS 0 c))) := nameI T6.out (by omega) k6
  clear k6 hb6 P2 T5
  go_wp2_with (go_at_call 11; refine N2.out.mono ?_)
  rintro e w7 ⟨rfl, hb7⟩
  have T7 : Hid (Trio w w7 a7 a8 a9 np DS NS) := T6.out.step hb7
  clear hb7 N2 T6
  have P3 : Hid (Calls Try.prog 10 #[.slice a7 np np, .slice a8 np np, .slice a9 np np, .int .i64 c, .int .i64 np] w7 (Parted w7 np c np a8 a9)) := partI T7.out c np (by omega) (by omega)
  go_wp2_with (go_at_call 10; refine P3.out.mono ?_)
  rintro e w8 ⟨b8, rfl, k8, hb8⟩
  have T8 : Hid (Trio w w8 a7 a8 a9 np DS NS) := T7.out.step hb8
  have N3 : Hid (Calls Try.prog 11 #[.pointer (some ⟨b8, 0, none⟩)] w8 (Spelt w8 (nameS NS DS c np))) := nameI T8.out (by omega) k8
  clear k8 hb8 P3 T7
  go_wp2_with (go_at_call 11; refine N3.out.mono ?_)
  rintro e w9 ⟨rfl, hb9⟩
  have T9 : Hid (Trio w w9 a7 a8 a9 np DS NS) := T8.out.step hb9
  clear hb9 N3 T8
  have hs1 := nameS_le NS DS 0 c np hnp hc T9.out.l
  have hs2 := nameS_le NS DS c np np hnp (Nat.le_refl _) T9.out.l
  rcases Nat.eq_zero_or_pos np with h0 | h0
  · have hc0 : c = 0 := by omega
    subst h0 hc0
    rw [nameS_nil]
    go_wp2_with fail
    go_ret
    exact ⟨rfl, T9.out.b⟩
  have hnz : ((np : Int) == 0) = false := beq_eq_false_iff_ne.2 (by omega)
  have P4 : Hid (Calls Try.prog 10 #[.slice a7 np np, .slice a8 np np, .slice a9 np np, .int .i64 0, .int .i64 1] w9 (Parted w9 np 0 1 a8 a9)) := partI T9.out 0 1 (by omega) (by omega)
  have hcs : c = 0 ∨ c = np ∨ 0 < c ∧ c < np := by omega
  obtain ⟨bd, od, hda, hbd, hcd⟩ := T9.out.d.pos h0
  obtain ⟨bn, on, hna, hbn, hcn⟩ := T9.out.s.pos h0
  have hcd0 : Hid (w9.cell? ⟨bd, od, none⟩ = some (.bool (DS 0))) := hcd 0 h0
  have hcn0 : Hid (w9.cell? ⟨bn, on, none⟩ = some (.string (NS 0))) := hcn 0 h0
  have hl0 := T9.out.l 0 h0
  subst hda hna
  clear hcd hcn
  rcases hcs with hcs | hcs | ⟨hc1, hc2⟩
  · subst hcs
    go_wp2_with fail
    refine P4.out.mono ?_
    rintro e w10 ⟨b10, rfl, k10, hb10⟩
    have T10 : Hid (Trio w w10 a7 (some ⟨bd, od, none⟩) (some ⟨bn, on, none⟩) np DS NS) := T9.out.step hb10
    have N4 : Hid (Calls Try.prog 11 #[.pointer (some ⟨b10, 0, none⟩)] w10 (Spelt w10 (nameS NS DS 0 (0 + 1)))) := nameI T10.out (by omega) k10
    have cd1 : Hid (w10.cell? ⟨bd, od, none⟩ = some (.bool (DS 0))) := (hb10.cell (p := ⟨bd, od, none⟩) hbd).trans hcd0.out
    have cn1 : Hid (w10.cell? ⟨bn, on, none⟩ = some (.string (NS 0))) := (hb10.cell (p := ⟨bn, on, none⟩) hbn).trans hcn0.out
    have z10 : w9.heap.size ≤ w10.heap.size := hb10.size
    clear k10 hb10 P4 T9 hcd0 hcn0
    go_wp2_with (go_at_call 11; refine N4.out.mono ?_)
    rintro e w11 ⟨rfl, hb11⟩
    have T11 : Hid (Trio w w11 a7 (some ⟨bd, od, none⟩) (some ⟨bn, on, none⟩) np DS NS) := T10.out.step hb11
    have cd2 : w11.cell? ⟨bd, od, none⟩ = some (.bool (DS 0)) := (hb11.cell (p := ⟨bd, od, none⟩) (by show bd < _; omega)).trans cd1.out
    have cn2 : w11.cell? ⟨bn, on, none⟩ = some (.string (NS 0)) := (hb11.cell (p := ⟨bn, on, none⟩) (by show bn < _; omega)).trans cn1.out
    clear hb11 N4 T10 cd1 cn1
    rw [nameS_one]
    go_wp2_with fail
    have hd0 := dirB_le (DS 0)
    go_quiet ((go_at_call 12; exact Calls.quiet_of_same (dir12 _ _)))
    go_wp2_with fail
    go_ret
    exact ⟨rfl, below_drewN T11.out.b _⟩
  · subst hcs
    have hcz : ((c : Int) == 0) = false := beq_eq_false_iff_ne.2 (by omega)
    go_wp2_with fail
    refine P4.out.mono ?_
    rintro e w10 ⟨b10, rfl, k10, hb10⟩
    have T10 : Hid (Trio w w10 a7 (some ⟨bd, od, none⟩) (some ⟨bn, on, none⟩) c DS NS) := T9.out.step hb10
    have N4 : Hid (Calls Try.prog 11 #[.pointer (some ⟨b10, 0, none⟩)] w10 (Spelt w10 (nameS NS DS 0 (0 + 1)))) := nameI T10.out (by omega) k10
    have cd1 : Hid (w10.cell? ⟨bd, od, none⟩ = some (.bool (DS 0))) := (hb10.cell (p := ⟨bd, od, none⟩) hbd).trans hcd0.out
    have cn1 : Hid (w10.cell? ⟨bn, on, none⟩ = some (.string (NS 0))) := (hb10.cell (p := ⟨bn, on, none⟩) hbn).trans hcn0.out
    have z10 : w9.heap.size ≤ w10.heap.size := hb10.size
    clear k10 hb10 P4 T9 hcd0 hcn0
    go_wp2_with (go_at_call 11; refine N4.out.mono ?_)
    rintro e w11 ⟨rfl, hb11⟩
    have T11 : Hid (Trio w w11 a7 (some ⟨bd, od, none⟩) (some ⟨bn, on, none⟩) c DS NS) := T10.out.step hb11
    have cd2 : w11.cell? ⟨bd, od, none⟩ = some (.bool (DS 0)) := (hb11.cell (p := ⟨bd, od, none⟩) (by show bd < _; omega)).trans cd1.out
    have cn2 : w11.cell? ⟨bn, on, none⟩ = some (.string (NS 0)) := (hb11.cell (p := ⟨bn, on, none⟩) (by show bn < _; omega)).trans cn1.out
    clear hb11 N4 T10 cd1 cn1
    rw [nameS_one]
    go_wp2_with fail
    have hd0 := dirB_le (DS 0)
    go_quiet ((go_at_call 12; exact Calls.quiet_of_same (dir12 _ _)))
    go_wp2_with fail
    go_ret
    exact ⟨rfl, below_drewN T11.out.b _⟩
  · have hcz : ((c : Int) == 0) = false := beq_eq_false_iff_ne.2 (by omega)
    have hcn : ((c : Int) == np) = false := beq_eq_false_iff_ne.2 (by omega)
    rw [nameS_add NS DS 0 c np hc1 hc2]
    go_wp2_with fail
    refine P4.out.mono ?_
    rintro e w10 ⟨b10, rfl, k10, hb10⟩
    have T10 : Hid (Trio w w10 a7 (some ⟨bd, od, none⟩) (some ⟨bn, on, none⟩) np DS NS) := T9.out.step hb10
    have N4 : Hid (Calls Try.prog 11 #[.pointer (some ⟨b10, 0, none⟩)] w10 (Spelt w10 (nameS NS DS 0 (0 + 1)))) := nameI T10.out (by omega) k10
    have cd1 : Hid (w10.cell? ⟨bd, od, none⟩ = some (.bool (DS 0))) := (hb10.cell (p := ⟨bd, od, none⟩) hbd).trans hcd0.out
    have cn1 : Hid (w10.cell? ⟨bn, on, none⟩ = some (.string (NS 0))) := (hb10.cell (p := ⟨bn, on, none⟩) hbn).trans hcn0.out
    have z10 : w9.heap.size ≤ w10.heap.size := hb10.size
    clear k10 hb10 P4 T9 hcd0 hcn0
    go_wp2_with (go_at_call 11; refine N4.out.mono ?_)
    rintro e w11 ⟨rfl, hb11⟩
    have T11 : Hid (Trio w w11 a7 (some ⟨bd, od, none⟩) (some ⟨bn, on, none⟩) np DS NS) := T10.out.step hb11
    have cd2 : w11.cell? ⟨bd, od, none⟩ = some (.bool (DS 0)) := (hb11.cell (p := ⟨bd, od, none⟩) (by show bd < _; omega)).trans cd1.out
    have cn2 : w11.cell? ⟨bn, on, none⟩ = some (.string (NS 0)) := (hb11.cell (p := ⟨bn, on, none⟩) (by show bn < _; omega)).trans cn1.out
    clear hb11 N4 T10 cd1 cn1
    rw [nameS_one]
    go_wp2_with fail
    have hd0 := dirB_le (DS 0)
    go_quiet ((go_at_call 12; exact Calls.quiet_of_same (dir12 _ _)))
    go_wp2_with fail
    go_ret
    exact ⟨rfl, below_drewN T11.out.b _⟩

end Go.Proofs.Qxb6626462a
