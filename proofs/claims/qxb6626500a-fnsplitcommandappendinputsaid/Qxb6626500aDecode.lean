import Derived.Test.Qxb6626500aSmall
namespace Go.Proofs.Qxb6626500a
open Go.RowKit

theorem info5 : (Try.prog.info? 5).map (fun i => (i.zero, i.size, i.bytes)) = some (some (.int .u8 0), 1, 1) := by kernel_rfl

/-- The part from lo to hi, decoded. -/
def decL (l : List UInt8) (lo hi : Nat) : List UInt8 := dl (prevB l lo) ((l.take hi).drop lo)
def decB (s : ByteArray) (lo hi : Nat) : ByteArray := ⟨(decL s.data.toList lo hi).toArray⟩

def Dec (l : List UInt8) (lo hi k : Nat) (out : List UInt8) : Prop := decL l lo hi = out ++ decL l k hi

def cellsOf (l : List UInt8) : List Value := l.map fun b => .int .u8 (b.toNat : Int)

theorem cut_at (s : ByteArray) (k hi : Nat) (h : k < hi) (hh : hi ≤ s.size) : (s.data.toList.take hi).drop k = at_ s.data.toList k :: (s.data.toList.take hi).drop (k + 1) := by
  have h' : k < (s.data.toList.take hi).length := by
    rw [List.length_take, Array.length_toList]
    have : s.data.size = s.size := rfl
    omega
  rw [List.drop_eq_getElem_cons h', List.getElem_take]
  congr 1
  unfold at_
  have h2 : k < s.data.toList.length := by rw [Array.length_toList]; have : s.data.size = s.size := rfl; omega
  rw [List.getD_eq_getElem?_getD, List.getElem?_eq_getElem h2]
  rfl

theorem cut_head (s : ByteArray) (k hi : Nat) (hh : hi ≤ s.size) : ((s.data.toList.take hi).drop k).head? = if k < hi then some (at_ s.data.toList k) else none := by
  by_cases h : k < hi
  · rw [cut_at s k hi h hh, if_pos h]; rfl
  · rw [if_neg h, List.drop_eq_nil_of_le (by rw [List.length_take]; omega)]; rfl

theorem decL_step (s : ByteArray) (k hi : Nat) (h : k < hi) (hh : hi ≤ s.size) : decL s.data.toList k hi =
    (if at_ s.data.toList k = 92 ∧ (k + 1 < hi ∧ at_ s.data.toList (k + 1) = 37) then [] else if at_ s.data.toList k = 37 then (if sepAt s.data.toList k then [10] else [37]) else [at_ s.data.toList k]) ++ decL s.data.toList (k + 1) hi := by
  unfold decL
  rw [cut_at s k hi h hh, dl, cut_head s (k + 1) hi hh]
  show _ ++ dl (at_ s.data.toList k) _ = _ ++ dl (at_ s.data.toList k) _
  congr 1
  by_cases h1 : at_ s.data.toList k = 37
  · simp [h1, sepAt]
  · by_cases h2 : k + 1 < hi <;> simp [h1, h2]

theorem Dec.start (l : List UInt8) (lo hi : Nat) : Dec l lo hi lo [] := rfl

theorem Dec.skip {s : ByteArray} {lo hi k : Nat} {out : List UInt8} (h : Dec s.data.toList lo hi k out) (hk : k < hi) (hh : hi ≤ s.size) (h1 : at_ s.data.toList k = 92) (h2 : k + 1 < hi) (h3 : at_ s.data.toList (k + 1) = 37) : Dec s.data.toList lo hi (k + 1) out := by
  unfold Dec at h ⊢
  rw [h, decL_step s k hi hk hh, if_pos ⟨h1, h2, h3⟩]
  rfl

theorem Dec.put {s : ByteArray} {lo hi k : Nat} {out : List UInt8} (h : Dec s.data.toList lo hi k out) (hk : k < hi) (hh : hi ≤ s.size) (h1 : ¬ (at_ s.data.toList k = 92 ∧ (k + 1 < hi ∧ at_ s.data.toList (k + 1) = 37))) (h2 : ¬ at_ s.data.toList k = 37) : Dec s.data.toList lo hi (k + 1) (out ++ [at_ s.data.toList k]) := by
  unfold Dec at h ⊢
  rw [h, decL_step s k hi hk hh, if_neg h1, if_neg h2, List.append_assoc]

theorem Dec.pct {s : ByteArray} {lo hi k : Nat} {out : List UInt8} (h : Dec s.data.toList lo hi k out) (hk : k < hi) (hh : hi ≤ s.size) (h2 : at_ s.data.toList k = 37) : Dec s.data.toList lo hi (k + 1) (out ++ [if sepAt s.data.toList k then 10 else 37]) := by
  unfold Dec at h ⊢
  rw [h, decL_step s k hi hk hh, if_neg (by rw [h2]; simp), if_pos h2, List.append_assoc]
  cases sepAt s.data.toList k <;> rfl

theorem Dec.done {s : ByteArray} {lo hi : Nat} {out : List UInt8} (h : Dec s.data.toList lo hi hi out) : decL s.data.toList lo hi = out := by
  unfold Dec at h
  rw [h]
  unfold decL
  rw [List.drop_eq_nil_of_le (by rw [List.length_take]; omega)]
  simp [dl]

def Wrote (w : World) (v : Value) (e : Ending) (w' : World) : Prop := e = .returned v ∧ Below w.heap.size w w'

theorem conv_own {w : World} {B g cap : Nat} {out : List UInt8} (h : w.ownsRow B 5 1 (.slice (some ⟨g, 0, none⟩) out.length cap) out.length (cellsOf out)) :
    (convert 30 9 (.slice (some ⟨g, 0, none⟩) out.length cap)).run Try.prog w = .ok (.string ⟨out.toArray⟩) w := by
  refine run_convert_bytes_back w 30 9 5 ⟨g, 0, none⟩ cap out Try.underlying30 Try.underlying5 Try.underlying9 (fun j hj => ?_)
  have := h.cellAt j (by omega)
  rw [Go.WideShapes.add_plain, Nat.zero_add, this]
  simp [cellsOf, List.getElem?_eq_getElem hj]

set_option maxHeartbeats 1000000 in
theorem dec10 (s : ByteArray) (lo hi : Nat) (w : World) (hs : s.size ≤ 2097152) (hlo : lo ≤ hi) (hhi : hi ≤ s.size) :
    Calls Try.prog 10 #[.string s, .int .i64 lo, .int .i64 hi] w (Wrote w (.string (decB s lo hi))) := by
  obtain ⟨i0, hi0, hz0, hz1, hz2⟩ := info_parts info5
  go_enter Try.func10, Try.ntmps10
  go_wp2_with (at_make; refine wpList_make_own _ rfl _ _ 30 rfl w.heap.size 5 i0 _ 1 Try.underlying30 hi0 hz0 hz1 .i64 .i64 _ (hi - lo) rfl rfl ?c1 ?c2 ?c3 ?c4 ?_)
  case c1 => omega
  case c2 => rw [hz2]; omega
  case c3 => unfold maxLen; omega
  case c4 => exact Nat.le_refl _
  intro w1 hown hgrow
  have HO : Hid (w1.ownsRow w.heap.size 5 1 (.slice (some ⟨w.heap.size, 0, none⟩) 0 (hi - lo)) 0 []) := hown
  have HB : Hid (Below w.heap.size w w1) := (Below.refl _ _).grown hgrow (Nat.le_refl _) (by simp)
  clear hgrow hown
  go_wp2_with fail
  go_loopw [7, 8] (fun v i wr => ∃ (k : Nat) (out : List UInt8), lo ≤ k ∧ k ≤ hi ∧ i = .int .i64 k ∧ out.length ≤ k - lo ∧ v = .slice (some ⟨w.heap.size, 0, none⟩) out.length (hi - lo) ∧ wr.ownsRow w.heap.size 5 1 (.slice (some ⟨w.heap.size, 0, none⟩) out.length (hi - lo)) out.length (cellsOf out) ∧ Below w.heap.size w wr ∧ Dec s.data.toList lo hi k out) (fun _ i _ => hi - (intOf i).toNat)
  case atStart => exact ⟨lo, [], Nat.le_refl _, hlo, rfl, Nat.zero_le _, rfl, HO.out, HB.out, Dec.start _ _ _⟩
  case round =>
    obtain ⟨k, out, hk0, hk, rfl, hlen, rfl, hown, hbel, hdec⟩ := hrel
    clear HO HB
    have hsz := hbel.size
    by_cases hlt : k < hi
    · have e1 := at_eq s k (by omega)
      have HO : Hid (wr.ownsRow w.heap.size 5 1 (.slice (some ⟨w.heap.size, 0, none⟩) out.length (hi - lo)) out.length (cellsOf out)) := hown
      have HB : Hid (Below w.heap.size w wr) := hbel
      have HD : Hid (Dec s.data.toList lo hi k out) := hdec
      clear hown hbel hdec
      have hks : k < s.size := by omega
      by_cases h92 : s[k] = 92
      · have t92 : ((s[k].toNat : Int) == 92) = true := beq_iff_eq.2 ((b92 _).2 h92)
        have t37 : ((s[k].toNat : Int) == 37) = false := beq_eq_false_iff_ne.2 (fun h => by rw [(b37 _).1 h] at h92; exact absurd h92 (by decide))
        by_cases hn : k + 1 < hi
        · have hns : k + 1 < s.size := by omega
          have e2 := at_eq s (k + 1) hns
          by_cases h37 : s[k + 1] = 37
          · have t2 : ((s[k + 1].toNat : Int) == 37) = true := beq_iff_eq.2 ((b37 _).2 h37)
            have R : Hid (Dec s.data.toList lo hi (k + 1) out) := HD.out.skip hlt hhi (by rw [← e1]; exact h92) hn (by rw [← e2]; exact h37)
            clear e1 e2 h92 h37 HD
            go_wp2_with fail
            go_roundw
            case rel => exact ⟨k + 1, out, by omega, by omega, by go_num, by omega, rfl, HO.out, HB.out, R.out⟩
            case measure => simp [intOf]; omega
          · have t2 : ((s[k + 1].toNat : Int) == 37) = false := beq_eq_false_iff_ne.2 (fun h => h37 ((b37 _).1 h))
            have R : Hid (Dec s.data.toList lo hi (k + 1) (out ++ [s[k]])) := by
              rw [e1]; exact HD.out.put hlt hhi (fun h => h37 (e2.trans h.2.2)) (by rw [← e1, h92]; decide)
            clear e1 e2 h92 h37 HD
            go_wp2_with (at_builtin; refine wpList_append_fits _ rfl (.tmp 49) (.tmp 51) 30 rfl w.heap.size 5 i0 1 Try.underlying30 hi0 hz1 w.heap.size out.length (hi - lo) _ rfl (HO.out.alloc _) ⟨wr.heap.size, 0, none⟩ 1 1 [.int .u8 (s[k].toNat)] rfl rfl (cell_one_new _ _ _) (by intro u hu; simp at hu; subst hu; rfl) (by omega) ?_)
            intro w2 hown2 hgrow2
            have R1 : w2.ownsRow w.heap.size 5 1 (.slice (some ⟨w.heap.size, 0, none⟩) (out ++ [s[k]]).length (hi - lo)) (out ++ [s[k]]).length (cellsOf (out ++ [s[k]])) := by
              have hcl : cellsOf (out ++ [s[k]]) = cellsOf out ++ [.int .u8 (s[k].toNat)] := by simp [cellsOf]
              rw [hcl, List.length_append, List.length_singleton]
              exact hown2
            have R2 : Hid (w2.ownsRow w.heap.size 5 1 (.slice (some ⟨w.heap.size, 0, none⟩) (out ++ [s[k]]).length (hi - lo)) (out ++ [s[k]]).length (cellsOf (out ++ [s[k]]))) := R1
            have R3 : Hid (Below w.heap.size w w2) := (HB.out.alloc hsz _).grown hgrow2 (by simp; omega) (by simp)
            clear R1 hown2 hgrow2 HO HB
            go_wp2_with fail
            go_roundw
            case rel => exact ⟨k + 1, out ++ [s[k]], by omega, by omega, by go_num, by rw [List.length_append, List.length_singleton]; omega, by rw [List.length_append, List.length_singleton], R2.out, R3.out, R.out⟩
            case measure => simp [intOf]; omega
        · have R : Hid (Dec s.data.toList lo hi (k + 1) (out ++ [s[k]])) := by
            rw [e1]; exact HD.out.put hlt hhi (fun h => hn h.2.1) (by rw [← e1, h92]; decide)
          clear e1 h92 HD
          go_wp2_with (at_builtin; refine wpList_append_fits _ rfl (.tmp 49) (.tmp 51) 30 rfl w.heap.size 5 i0 1 Try.underlying30 hi0 hz1 w.heap.size out.length (hi - lo) _ rfl (HO.out.alloc _) ⟨wr.heap.size, 0, none⟩ 1 1 [.int .u8 (s[k].toNat)] rfl rfl (cell_one_new _ _ _) (by intro u hu; simp at hu; subst hu; rfl) (by omega) ?_)
          intro w2 hown2 hgrow2
          have R1 : w2.ownsRow w.heap.size 5 1 (.slice (some ⟨w.heap.size, 0, none⟩) (out ++ [s[k]]).length (hi - lo)) (out ++ [s[k]]).length (cellsOf (out ++ [s[k]])) := by
            have hcl : cellsOf (out ++ [s[k]]) = cellsOf out ++ [.int .u8 (s[k].toNat)] := by simp [cellsOf]
            rw [hcl, List.length_append, List.length_singleton]
            exact hown2
          have R2 : Hid (w2.ownsRow w.heap.size 5 1 (.slice (some ⟨w.heap.size, 0, none⟩) (out ++ [s[k]]).length (hi - lo)) (out ++ [s[k]]).length (cellsOf (out ++ [s[k]]))) := R1
          have R3 : Hid (Below w.heap.size w w2) := (HB.out.alloc hsz _).grown hgrow2 (by simp; omega) (by simp)
          clear R1 hown2 hgrow2 HO HB
          go_wp2_with fail
          go_roundw
          case rel => exact ⟨k + 1, out ++ [s[k]], by omega, by omega, by go_num, by rw [List.length_append, List.length_singleton]; omega, by rw [List.length_append, List.length_singleton], R2.out, R3.out, R.out⟩
          case measure => simp [intOf]; omega
      · have t92 : ((s[k].toNat : Int) == 92) = false := beq_eq_false_iff_ne.2 (fun h => h92 ((b92 _).1 h))
        by_cases h37 : s[k] = 37
        · have t37 : ((s[k].toNat : Int) == 37) = true := beq_iff_eq.2 ((b37 _).2 h37)
          have R0 : Hid (Dec s.data.toList lo hi (k + 1) (out ++ [if sepAt s.data.toList k then 10 else 37])) := HD.out.pct hlt hhi (by rw [← e1]; exact h37)
          have H : Hid (Calls Try.prog 16 #[.string s, .int .i64 k] wr (Gave wr (.bool (sepAt s.data.toList k)))) := sep16 s k wr hs hks
          clear e1 h92 h37 HD
          go_wp2_with (go_at_call 16; refine H.out.mono ?_)
          rintro e w' ⟨rfl, hww⟩
          subst hww
          clear H
          rcases (show sepAt s.data.toList k = false ∨ sepAt s.data.toList k = true from by cases sepAt s.data.toList k <;> simp) with h | h
          · have R : Hid (Dec s.data.toList lo hi (k + 1) (out ++ [37])) := by have := R0.out; rw [h] at this; exact this
            rw [h]
            clear h R0
            go_wp2_with (at_builtin; refine wpList_append_fits _ rfl (.tmp 46) (.tmp 47) 30 rfl w.heap.size 5 i0 1 Try.underlying30 hi0 hz1 w.heap.size out.length (hi - lo) _ rfl (HO.out.alloc _) ⟨w'.heap.size, 0, none⟩ 1 1 [.int .u8 (37)] rfl rfl (cell_one_new _ _ _) (by intro u hu; simp at hu; subst hu; rfl) (by omega) ?_)
            intro w2 hown2 hgrow2
            have R1 : w2.ownsRow w.heap.size 5 1 (.slice (some ⟨w.heap.size, 0, none⟩) (out ++ [37]).length (hi - lo)) (out ++ [37]).length (cellsOf (out ++ [37])) := by
              have hcl : cellsOf (out ++ [37]) = cellsOf out ++ [.int .u8 (37)] := by simp [cellsOf]
              rw [hcl, List.length_append, List.length_singleton]
              exact hown2
            have R2 : Hid (w2.ownsRow w.heap.size 5 1 (.slice (some ⟨w.heap.size, 0, none⟩) (out ++ [37]).length (hi - lo)) (out ++ [37]).length (cellsOf (out ++ [37]))) := R1
            have R3 : Hid (Below w.heap.size w w2) := (HB.out.alloc hsz _).grown hgrow2 (by simp; omega) (by simp)
            clear R1 hown2 hgrow2 HO HB
            go_wp2_with fail
            go_roundw
            case rel => exact ⟨k + 1, out ++ [37], by omega, by omega, by go_num, by rw [List.length_append, List.length_singleton]; omega, by rw [List.length_append, List.length_singleton], R2.out, R3.out, R.out⟩
            case measure => simp [intOf]; omega
          · have R : Hid (Dec s.data.toList lo hi (k + 1) (out ++ [10])) := by have := R0.out; rw [h] at this; exact this
            rw [h]
            clear h R0
            go_wp2_with (at_builtin; refine wpList_append_fits _ rfl (.tmp 43) (.tmp 44) 30 rfl w.heap.size 5 i0 1 Try.underlying30 hi0 hz1 w.heap.size out.length (hi - lo) _ rfl (HO.out.alloc _) ⟨w'.heap.size, 0, none⟩ 1 1 [.int .u8 (10)] rfl rfl (cell_one_new _ _ _) (by intro u hu; simp at hu; subst hu; rfl) (by omega) ?_)
            intro w2 hown2 hgrow2
            have R1 : w2.ownsRow w.heap.size 5 1 (.slice (some ⟨w.heap.size, 0, none⟩) (out ++ [10]).length (hi - lo)) (out ++ [10]).length (cellsOf (out ++ [10])) := by
              have hcl : cellsOf (out ++ [10]) = cellsOf out ++ [.int .u8 (10)] := by simp [cellsOf]
              rw [hcl, List.length_append, List.length_singleton]
              exact hown2
            have R2 : Hid (w2.ownsRow w.heap.size 5 1 (.slice (some ⟨w.heap.size, 0, none⟩) (out ++ [10]).length (hi - lo)) (out ++ [10]).length (cellsOf (out ++ [10]))) := R1
            have R3 : Hid (Below w.heap.size w w2) := (HB.out.alloc hsz _).grown hgrow2 (by simp; omega) (by simp)
            clear R1 hown2 hgrow2 HO HB
            go_wp2_with fail
            go_roundw
            case rel => exact ⟨k + 1, out ++ [10], by omega, by omega, by go_num, by rw [List.length_append, List.length_singleton]; omega, by rw [List.length_append, List.length_singleton], R2.out, R3.out, R.out⟩
            case measure => simp [intOf]; omega
        · have t37 : ((s[k].toNat : Int) == 37) = false := beq_eq_false_iff_ne.2 (fun h => h37 ((b37 _).1 h))
          have R : Hid (Dec s.data.toList lo hi (k + 1) (out ++ [s[k]])) := by
            rw [e1]; exact HD.out.put hlt hhi (fun h => h92 (e1.trans h.1)) (by rw [← e1]; exact h37)
          clear e1 h92 h37 HD
          go_wp2_with (at_builtin; refine wpList_append_fits _ rfl (.tmp 49) (.tmp 51) 30 rfl w.heap.size 5 i0 1 Try.underlying30 hi0 hz1 w.heap.size out.length (hi - lo) _ rfl (HO.out.alloc _) ⟨wr.heap.size, 0, none⟩ 1 1 [.int .u8 (s[k].toNat)] rfl rfl (cell_one_new _ _ _) (by intro u hu; simp at hu; subst hu; rfl) (by omega) ?_)
          intro w2 hown2 hgrow2
          have R1 : w2.ownsRow w.heap.size 5 1 (.slice (some ⟨w.heap.size, 0, none⟩) (out ++ [s[k]]).length (hi - lo)) (out ++ [s[k]]).length (cellsOf (out ++ [s[k]])) := by
            have hcl : cellsOf (out ++ [s[k]]) = cellsOf out ++ [.int .u8 (s[k].toNat)] := by simp [cellsOf]
            rw [hcl, List.length_append, List.length_singleton]
            exact hown2
          have R2 : Hid (w2.ownsRow w.heap.size 5 1 (.slice (some ⟨w.heap.size, 0, none⟩) (out ++ [s[k]]).length (hi - lo)) (out ++ [s[k]]).length (cellsOf (out ++ [s[k]]))) := R1
          have R3 : Hid (Below w.heap.size w w2) := (HB.out.alloc hsz _).grown hgrow2 (by simp; omega) (by simp)
          clear R1 hown2 hgrow2 HO HB
          go_wp2_with fail
          go_roundw
          case rel => exact ⟨k + 1, out ++ [s[k]], by omega, by omega, by go_num, by rw [List.length_append, List.length_singleton]; omega, by rw [List.length_append, List.length_singleton], R2.out, R3.out, R.out⟩
          case measure => simp [intOf]; omega
    · obtain rfl : k = hi := by omega
      have R : Hid (decL s.data.toList lo k = out) := hdec.done
      have hconv := conv_own hown
      have HB : Hid (Below w.heap.size w wr) := hbel
      clear hown hdec hbel
      go_wp2_with fail
      go_ret
      refine ⟨?_, HB.out⟩
      unfold decB
      rw [R.out]
      rfl
end Go.Proofs.Qxb6626500a
