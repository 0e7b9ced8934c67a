import Derived.Test.Qxb6626500aBuilder
namespace Go.Proofs.Qxb6626500a
open Go.RowKit

/-- SplitCommand's loop from k on comes to what it comes to from the start. -/
def Spl (l : List UInt8) (k : Nat) (sp : Bool) (c b : List UInt8) : Prop := splitAux false [] [] l = splitAux sp c b (l.drop k)

theorem Spl.start (l : List UInt8) : Spl l 0 false [] [] := rfl

theorem Spl.esc {s : ByteArray} {k : Nat} {sp : Bool} {c b : List UInt8} (h : Spl s.data.toList k sp c b) (h1 : k + 1 < s.size) (h2 : at_ s.data.toList k = 92) (h3 : at_ s.data.toList (k + 1) = 37) :
    Spl s.data.toList (k + 2) sp c (b ++ [37]) := by
  unfold Spl at h ⊢
  rw [h, drop_at s k (by omega), drop_at s (k + 1) h1, h2, h3, splitAux_esc]

theorem Spl.cut {s : ByteArray} {k : Nat} {c b : List UInt8} (h : Spl s.data.toList k false c b) (h1 : k < s.size) (h2 : at_ s.data.toList k = 37) : Spl s.data.toList (k + 1) true b [] := by
  unfold Spl at h ⊢
  rw [h, drop_at s k h1, h2, splitAux_pct, if_neg (by simp)]

theorem Spl.line {s : ByteArray} {k : Nat} {c b : List UInt8} (h : Spl s.data.toList k true c b) (h1 : k < s.size) (h2 : at_ s.data.toList k = 37) : Spl s.data.toList (k + 1) true c (b ++ [10]) := by
  unfold Spl at h ⊢
  rw [h, drop_at s k h1, h2, splitAux_pct, if_pos rfl]

theorem head_at (s : ByteArray) (k : Nat) : (s.data.toList.drop k).head? = if k < s.size then some (at_ s.data.toList k) else none := by
  by_cases h : k < s.size
  · rw [drop_at s k h, if_pos h]; rfl
  · rw [drop_end s k (by omega), if_neg h]; rfl

theorem Spl.put {s : ByteArray} {k : Nat} {sp : Bool} {c b : List UInt8} (h : Spl s.data.toList k sp c b) (h1 : k < s.size) (h2 : ¬ (at_ s.data.toList k = 92 ∧ (k + 1 < s.size ∧ at_ s.data.toList (k + 1) = 37))) (h3 : ¬ at_ s.data.toList k = 37) :
    Spl s.data.toList (k + 1) sp c (b ++ [at_ s.data.toList k]) := by
  unfold Spl at h ⊢
  rw [h, drop_at s k h1, splitAux_other _ _ _ _ _ ?_ h3]
  rw [head_at]
  intro ⟨e1, e2⟩
  apply h2
  refine ⟨e1, ?_⟩
  by_cases h4 : k + 1 < s.size
  · rw [if_pos h4] at e2
    exact ⟨h4, by simpa using e2⟩
  · rw [if_neg h4] at e2
    cases e2

theorem Spl.done {s : ByteArray} {k : Nat} {sp : Bool} {c b : List UInt8} (h : Spl s.data.toList k sp c b) (h1 : s.size ≤ k) : splitR s.data.toList = if sp then (c, endL b) else (b, []) := by
  unfold Spl at h
  rw [drop_end s k h1, splitAux] at h
  unfold splitR
  rw [h]
  cases sp <;> rfl

def splB1 (s : ByteArray) : ByteArray := ⟨(splitR s.data.toList).1.toArray⟩
def splB2 (s : ByteArray) : ByteArray := ⟨(splitR s.data.toList).2.toArray⟩

theorem suffix10 (b : List UInt8) : Lib.hasSuffix b [10] = decide (b.getLast? = some 10) := by
  unfold Lib.hasSuffix
  rw [Bool.eq_iff_iff, List.isSuffixOf_iff_suffix, decide_eq_true_eq]
  constructor
  · rintro ⟨t, rfl⟩
    simp
  · intro h
    rw [List.getLast?_eq_some_iff] at h
    obtain ⟨t, rfl⟩ := h
    exact ⟨t, rfl⟩

theorem size_mk (l : List UInt8) : (⟨l.toArray⟩ : ByteArray).size = l.length := by
  show l.toArray.size = _
  simp

theorem suf15 (b : List UInt8) (w : World) (hb : b.length ≤ 9223372036854775807) : Calls Try.prog 15 #[.string ⟨b.toArray⟩, .string ⟨#[10]⟩] w (Gave w (.bool (decide (b.getLast? = some 10)))) := by
  rw [← suffix10]
  exact Try.strings_HasSuffix ⟨b.toArray⟩ ⟨#[10]⟩ w (by rw [size_mk]; exact hb)

set_option maxHeartbeats 1000000 in
theorem split6 (s : ByteArray) (w : World) (hs : s.size ≤ 2097152) :
    Calls Try.prog 6 #[.string s] w (Wrote w (.tuple #[.string (splB1 s), .string (splB2 s)])) := by
  go_enter Try.func6, Try.ntmps6
  go_wp2_with fail
  go_loopw [2, 5, 6] (fun vc vs vi wr => ∃ (k : Nat) (sp : Bool) (c b : List UInt8), k ≤ s.size ∧ vi = .int .i64 k ∧ vs = .bool sp ∧ vc = .string ⟨c.toArray⟩ ∧ b.length ≤ k ∧ Bld w wr w.heap.size b ∧ Spl s.data.toList k sp c b) (fun _ _ i _ => s.size - (intOf i).toNat)
  case atStart => exact ⟨0, false, [], [], Nat.zero_le _, rfl, rfl, rfl, Nat.zero_le _, Bld.fresh w, Spl.start _⟩
  case round =>
    obtain ⟨k, sp, c, b, hk, rfl, rfl, rfl, hlen, hbld, hspl⟩ := hrel
    have HB : Hid (Bld w wr w.heap.size b) := hbld
    have HS : Hid (Spl s.data.toList k sp c b) := hspl
    clear hbld hspl
    by_cases hlt : k < s.size
    · have e1 := at_eq s k hlt
      by_cases h92 : s[k] = 92
      · have t92 : ((s[k].toNat : Int) == 92) = true := beq_iff_eq.2 ((b92 _).2 h92)
        have t37 : ((s[k].toNat : Int) == 37) = false := beq_eq_false_iff_ne.2 (fun h => by rw [(b37 _).1 h] at h92; exact absurd h92 (by decide))
        by_cases hn : k + 1 < s.size
        · have e2 := at_eq s (k + 1) hn
          by_cases h37 : s[k + 1] = 37
          · have t2 : ((s[k + 1].toNat : Int) == 37) = true := beq_iff_eq.2 ((b37 _).2 h37)
            have R : Hid (Spl s.data.toList (k + 2) sp c (b ++ [37])) := HS.out.esc hn (by rw [← e1]; exact h92) (by rw [← e2]; exact h37)
            have H : Hid (Calls Try.prog 14 #[.pointer (some ⟨w.heap.size, 0, none⟩), .int .u8 37] wr (PutByte w w.heap.size (b ++ [37]))) := put14 HB.out (by omega) 37
            clear e1 e2 h92 h37 HS HB
            go_wp2_with (go_at_call 14; refine H.out.mono ?_)
            rintro e w2 ⟨rfl, hb2⟩
            have HB2 : Hid (Bld w w2 w.heap.size (b ++ [37])) := hb2
            clear hb2 H
            go_wp2_with fail
            go_roundw
            case rel => exact ⟨k + 2, sp, c, b ++ [37], by omega, by go_num, rfl, rfl, by rw [List.length_append, List.length_singleton]; omega, HB2.out, R.out⟩
            case measure => simp [intOf]; omega
          · have t2 : ((s[k + 1].toNat : Int) == 37) = false := beq_eq_false_iff_ne.2 (fun h => h37 ((b37 _).1 h))
            have R : Hid (Spl s.data.toList (k + 1) sp c (b ++ [s[k]])) := by
              rw [e1]; exact HS.out.put hlt (fun h => h37 (e2.trans h.2.2)) (by rw [← e1, h92]; decide)
            have H : Hid (Calls Try.prog 14 #[.pointer (some ⟨w.heap.size, 0, none⟩), .int .u8 s[k].toNat] wr (PutByte w w.heap.size (b ++ [s[k]]))) := put14 HB.out (by omega) s[k]
            clear e1 e2 h92 h37 HS HB
            go_wp2_with (go_at_call 14; refine H.out.mono ?_)
            rintro e w2 ⟨rfl, hb2⟩
            have HB2 : Hid (Bld w w2 w.heap.size (b ++ [s[k]])) := hb2
            clear hb2 H
            go_wp2_with fail
            go_roundw
            case rel => exact ⟨k + 1, sp, c, b ++ [s[k]], by omega, by go_num, rfl, rfl, by rw [List.length_append, List.length_singleton]; omega, HB2.out, R.out⟩
            case measure => simp [intOf]; omega
        · have R : Hid (Spl s.data.toList (k + 1) sp c (b ++ [s[k]])) := by
            rw [e1]; exact HS.out.put hlt (fun h => hn h.2.1) (by rw [← e1, h92]; decide)
          have H : Hid (Calls Try.prog 14 #[.pointer (some ⟨w.heap.size, 0, none⟩), .int .u8 s[k].toNat] wr (PutByte w w.heap.size (b ++ [s[k]]))) := put14 HB.out (by omega) s[k]
          clear e1 h92 HS HB
          go_wp2_with (go_at_call 14; refine H.out.mono ?_)
          rintro e w2 ⟨rfl, hb2⟩
          have HB2 : Hid (Bld w w2 w.heap.size (b ++ [s[k]])) := hb2
          clear hb2 H
          go_wp2_with fail
          go_roundw
          case rel => exact ⟨k + 1, sp, c, b ++ [s[k]], by omega, by go_num, rfl, rfl, by rw [List.length_append, List.length_singleton]; omega, HB2.out, R.out⟩
          case measure => simp [intOf]; omega
      · have t92 : ((s[k].toNat : Int) == 92) = false := beq_eq_false_iff_ne.2 (fun h => h92 ((b92 _).1 h))
        by_cases h37 : s[k] = 37
        · have t37 : ((s[k].toNat : Int) == 37) = true := beq_iff_eq.2 ((b37 _).2 h37)
          cases sp
          · have R : Hid (Spl s.data.toList (k + 1) true b []) := HS.out.cut hlt (by rw [← e1]; exact h37)
            have H : Hid (Calls Try.prog 12 #[.pointer (some ⟨w.heap.size, 0, none⟩)] wr (GotString w w.heap.size b)) := str12 HB.out
            clear e1 h92 h37 HS HB
            go_wp2_with (go_at_call 12; refine H.out.mono ?_)
            rintro e w2 ⟨rfl, hb2⟩
            have H2 : Hid (Calls Try.prog 13 #[.pointer (some ⟨w.heap.size, 0, none⟩)] w2 (DidReset w w.heap.size)) := reset13 hb2
            clear hb2 H
            go_wp2_with (go_at_call 13; refine H2.out.mono ?_)
            rintro e w3 ⟨rfl, hb3⟩
            have HB3 : Hid (Bld w w3 w.heap.size []) := hb3
            clear hb3 H2
            go_wp2_with fail
            go_roundw
            case rel => exact ⟨k + 1, true, b, [], by omega, by go_num, rfl, rfl, Nat.zero_le _, HB3.out, R.out⟩
            case measure => simp [intOf]; omega
          · have R : Hid (Spl s.data.toList (k + 1) true c (b ++ [10])) := HS.out.line hlt (by rw [← e1]; exact h37)
            have H : Hid (Calls Try.prog 14 #[.pointer (some ⟨w.heap.size, 0, none⟩), .int .u8 10] wr (PutByte w w.heap.size (b ++ [10]))) := put14 HB.out (by omega) 10
            clear e1 h92 h37 HS HB
            go_wp2_with (go_at_call 14; refine H.out.mono ?_)
            rintro e w2 ⟨rfl, hb2⟩
            have HB2 : Hid (Bld w w2 w.heap.size (b ++ [10])) := hb2
            clear hb2 H
            go_wp2_with fail
            go_roundw
            case rel => exact ⟨k + 1, true, c, b ++ [10], by omega, by go_num, rfl, rfl, by rw [List.length_append, List.length_singleton]; omega, HB2.out, R.out⟩
            case measure => simp [intOf]; omega
        · have t37 : ((s[k].toNat : Int) == 37) = false := beq_eq_false_iff_ne.2 (fun h => h37 ((b37 _).1 h))
          have R : Hid (Spl s.data.toList (k + 1) sp c (b ++ [s[k]])) := by
            rw [e1]; exact HS.out.put hlt (fun h => h92 (e1.trans h.1)) (by rw [← e1]; exact h37)
          have H : Hid (Calls Try.prog 14 #[.pointer (some ⟨w.heap.size, 0, none⟩), .int .u8 s[k].toNat] wr (PutByte w w.heap.size (b ++ [s[k]]))) := put14 HB.out (by omega) s[k]
          clear e1 h92 h37 HS HB
          go_wp2_with (go_at_call 14; refine H.out.mono ?_)
          rintro e w2 ⟨rfl, hb2⟩
          have HB2 : Hid (Bld w w2 w.heap.size (b ++ [s[k]])) := hb2
          clear hb2 H
          go_wp2_with fail
          go_roundw
          case rel => exact ⟨k + 1, sp, c, b ++ [s[k]], by omega, by go_num, rfl, rfl, by rw [List.length_append, List.length_singleton]; omega, HB2.out, R.out⟩
          case measure => simp [intOf]; omega
    · have R : Hid (splitR s.data.toList = if sp then (c, endL b) else (b, [])) := HS.out.done (by omega)
      have H : Hid (Calls Try.prog 12 #[.pointer (some ⟨w.heap.size, 0, none⟩)] wr (GotString w w.heap.size b)) := str12 HB.out
      clear HS HB
      cases sp
      · go_wp2_with (go_at_call 12; refine H.out.mono ?_)
        rintro e w2 ⟨rfl, hb2⟩
        have HB2 : Hid (Below w.heap.size w w2) := hb2.bel
        clear hb2 H
        go_wp2_with fail
        go_ret2
        refine ⟨?_, HB2.out⟩
        unfold splB1 splB2
        rw [R.out]
        rfl
      · have R1 : Hid (splitR s.data.toList = (c, endL b)) := R.out
        clear R
        have hbl : (⟨b.toArray⟩ : ByteArray).size ≤ 4194304 := by rw [size_mk]; omega
        go_wp2_with (go_at_call 12; refine H.out.mono ?_)
        rintro e w2 ⟨rfl, hb2⟩
        have HB2 : Hid (Below w.heap.size w w2) := hb2.bel
        clear hb2 H
        have HF : Hid (Calls Try.prog 15 #[.string ⟨b.toArray⟩, .string ⟨#[10]⟩] w2 (Gave w2 (.bool (decide (b.getLast? = some 10))))) := suf15 b w2 (by omega)
        by_cases hb0 : b = []
        · have R2 : Hid (splitR s.data.toList = (c, [])) := by
            rw [Hid, R1.out, hb0]
            rfl
          subst hb0
          clear R1 HF
          go_wp2_with fail
          go_ret2
          refine ⟨?_, HB2.out⟩
          unfold splB1 splB2
          rw [R2.out]
          rfl
        have hbe : b.isEmpty = false := by simpa using hb0
        by_cases h10 : b.getLast? = some 10
        · have R2 : Hid (splitR s.data.toList = (c, b)) := by
            rw [Hid, R1.out]
            simp [endL, h10]
          rw [decide_eq_true h10] at HF
          clear R1 h10
          go_wp2_with (go_at_call 15; refine HF.out.mono ?_)
          rintro e w3 ⟨rfl, hw3⟩
          subst hw3
          go_wp2_with fail
          go_ret2
          refine ⟨?_, HB2.out⟩
          unfold splB1 splB2
          rw [R2.out]
          rfl
        · have R2 : Hid (splitR s.data.toList = (c, b ++ [10])) := by
            rw [Hid, R1.out]
            simp [endL, h10, hb0]
          rw [decide_eq_false h10] at HF
          clear R1 h10
          go_wp2_with (go_at_call 15; refine HF.out.mono ?_)
          rintro e w3 ⟨rfl, hw3⟩
          subst hw3
          go_wp2_with fail
          go_ret2
          refine ⟨?_, HB2.out⟩
          unfold splB1 splB2
          rw [R2.out]
          have e10 : (⟨(b ++ [10]).toArray⟩ : ByteArray) = ⟨b.toArray⟩ ++ ⟨#[10]⟩ := by
            apply bytes_ext
            simp [ByteArray.data_append]
          show _ = Ending.returned (.tuple #[.string ⟨c.toArray⟩, .string ⟨(b ++ [10]).toArray⟩])
          rw [e10]
          rfl
end Go.Proofs.Qxb6626500a
