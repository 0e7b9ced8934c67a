import Derived.Test.Qxb6627192aSet
import Derived.Maps.OwnOps
namespace Go.Proofs.Qxb6627192a
open Go.RowKit Go.WideMaps Go.Maps

theorem info9 : (Try.prog.info? 9).map (fun i => (i.zero, i.size, i.bytes)) = some (some (.string ⟨#[]⟩), 1, 16) := by kernel_rfl

def bs (l : List UInt8) : ByteArray := ⟨l.toArray⟩
def sv (l : List UInt8) : Value := .string (bs l)

theorem bytes_ext {a b : ByteArray} (h : a.data.toList = b.data.toList) : a = b := by
  cases a; cases b
  simp only at h
  exact congrArg ByteArray.mk (Array.toList_inj.1 h)

theorem bs_eq (s : ByteArray) : bs s.data.toList = s := by
  apply bytes_ext
  simp [bs]

theorem bs_list (l : List UInt8) : (bs l).data.toList = l := by simp [bs]

/-- What a column references. -/
def rl (C : Nat → Col) (i : Nat) : List UInt8 := (C i).rf.data.toList

/-- A slice of the strings xs comes back, in memory that holds; nothing old has turned. -/
def Strs (w : World) (v : Value) (xs : List (List UInt8)) : Prop := ∃ a c, v = .slice a xs.length c ∧ xs.length ≤ c ∧ At w w.heap.size a xs.length (fun i => sv (xs.getD i []))

def GaveStrs (w : World) (xs : List (List UInt8)) (e : Ending) (w' : World) : Prop := ∃ v, e = .returned v ∧ Strs w' v xs ∧ Below w.heap.size w w'

theorem strs_of {w : World} {B : Nat} {v : Value} {xs : List (List UInt8)} (h : w.ownsRow B 9 1 v xs.length (xs.map sv)) : Strs w v xs := by
  rcases h.2 with ⟨h1, h2⟩ | ⟨g, cap, cur, h1, hB, hg, hn, _⟩
  · exact ⟨none, 0, by rw [h1, h2], by omega, Or.inl h2⟩
  · subst h1
    refine ⟨_, cap, rfl, hn, Or.inr ⟨g, 0, rfl, (Array.getElem?_eq_some_iff.1 hg).1, fun i hi => ?_⟩⟩
    show _ = some (sv (xs.getD i []))
    rw [Nat.zero_add, h.cellAt i (by omega), List.getElem?_map, List.getD_eq_getElem?_getD, List.getElem?_eq_getElem hi]
    rfl

theorem Strs.below {w w' : World} {v : Value} {xs : List (List UInt8)} (h : Strs w v xs) (hb : Below w.heap.size w w') : Strs w' v xs := by
  obtain ⟨a, c, h1, h2, h3⟩ := h
  exact ⟨a, c, h1, h2, h3.below hb hb.size⟩

theorem row_ne {w : World} {B : Nat} {v : Value} {n : Nat} {xs : List Value} (h : w.ownsRow (B + 1) 9 1 v n xs) : v.ownBlock = none ∨ v.ownBlock ≠ some B := by
  rcases h.2 with ⟨h1, _⟩ | ⟨g, cap, cur, h1, hB, _⟩
  · rw [h1]; exact Or.inl rfl
  · right
    rw [h1]
    intro e
    have : g = B := Option.some.inj e
    omega

theorem row_ge {w : World} {B : Nat} {v : Value} {n : Nat} {xs : List Value} (h : w.ownsRow (B + 1) 9 1 v n xs) {j : Nat} (hj : v.ownBlock = some j) : B ≤ j := by
  rcases h.2 with ⟨h1, _⟩ | ⟨g, cap, cur, h1, hB, _⟩
  · rw [h1] at hj; cases hj
  · rw [h1] at hj
    have : g = j := Option.some.inj hj
    omega

set_option maxRecDepth 100000 in
set_option maxHeartbeats 1000000 in
theorem refd14 (w : World) (cb : Nat) (a : Option Addr) (n c : Nat) (C : Nat → Col) (hcb : cb < w.heap.size) (hcell : w.cell? ⟨cb, 1, none⟩ = some (.slice a n c)) (hC : Cols w w.heap.size a n C) (hn : n ≤ 1048576)
    (hL : ∀ i, i < n → (C i).rf.size ≤ 1048576) :
    Calls Try.prog 14 #[.pointer (some ⟨cb, 0, none⟩)] w (GaveStrs w (refL (lst (rl C) n))) := by
  obtain ⟨i0, hi0, hz0, hz1, hz2⟩ := info_parts info9
  have hmm := @run_makeMap Try.prog
  have HC : Hid (Cols w w.heap.size a n C) := hC
  have HL : Hid (∀ i, i < n → (C i).rf.size ≤ 1048576) := hL
  clear hC hL
  go_enter Try.func14, Try.ntmps14
  go_wp2_with fail
  clear hmm
  go_loopw [3, 13] (fun v i wr => ∃ k : Nat, k ≤ n ∧ i = .int .i64 k ∧ wr.ownsRow (w.heap.size + 1) 9 1 v (refL (lst (rl C) k)).length ((refL (lst (rl C) k)).map sv) ∧ MapSet wr w.heap.size k (refL (lst (rl C) k)) ∧ Below w.heap.size w wr) (fun _ i _ => n - (intOf i).toNat)
  case atStart => exact ⟨0, Nat.zero_le _, rfl, World.ownsRow_nil _ _ _ _, MapSet.made w, (Below.refl _ _).alloc (Nat.le_refl _) _⟩
  case round =>
    obtain ⟨k, hk, rfl, hown, hset, hbel⟩ := hrel
    by_cases hlt : k < n
    · obtain ⟨b, o, ha, hb, hcol⟩ := HC.out.pos hlt
      obtain ⟨c0, c1, c2, c3, c4, c5, c6⟩ := (hcol k hlt).below hbel hb
      have hl6 := HL.out k hlt
      have hsz := hbel.size
      have hml : (C k).rf.size ≤ maxLen := by unfold maxLen; omega
      have htl : (C k).rf.toList = rl C k := Lib.toList_data _
      have hT := refL_lst (rl C) k
      have hTl := refL_lst_length (rl C) k
      have HO : Hid (wr.ownsRow (w.heap.size + 1) 9 1 u3 (refL (lst (rl C) k)).length ((refL (lst (rl C) k)).map sv)) := hown
      have HS : Hid (MapSet wr w.heap.size k (refL (lst (rl C) k))) := hset
      have HB : Hid (Below w.heap.size w wr) := hbel
      subst ha
      clear hcol hown hset hbel
      by_cases h0 : rl C k = []
      · have hE : (C k).rf.toList.isEmpty = true := by rw [htl, h0]; rfl
        have HT : Hid (refL (lst (rl C) (k + 1)) = refL (lst (rl C) k)) := by rw [Hid, hT, addR, if_pos (Or.inl h0)]
        clear hT htl h0
        go_wp2_with fail
        go_roundw
        case rel => exact ⟨k + 1, by omega, by go_num, by rw [HT.out]; exact HO.out.alloc _, by rw [HT.out]; exact (HS.out.mono (by omega)).alloc _, HB.out.alloc hsz _⟩
        case measure => simp [intOf]; omega
      have hE : (C k).rf.toList.isEmpty = false := by
        rw [htl]
        cases hr : rl C k with
        | nil => exact absurd hr h0
        | cons x r => rfl
      by_cases h1 : rl C k ∈ refL (lst (rl C) k)
      · have hlook : ∀ o, (Instr.lookup 42 (.map (some w.heap.size)) (.string (C k).rf) false).run Try.prog (wr.alloc o) = .ok (.bool true) (wr.alloc o) := fun o => by
          have := (HS.out.alloc o).look (C k).rf hml
          rw [show (C k).rf.data.toList = rl C k from rfl, decide_eq_true h1] at this
          exact this
        have HT : Hid (refL (lst (rl C) (k + 1)) = refL (lst (rl C) k)) := by rw [Hid, hT, addR, if_pos (Or.inr h1)]
        clear hT htl h0 h1
        go_wp2_with fail
        go_roundw
        case rel => exact ⟨k + 1, by omega, by go_num, by rw [HT.out]; exact HO.out.alloc _, by rw [HT.out]; exact (HS.out.mono (by omega)).alloc _, HB.out.alloc hsz _⟩
        case measure => simp [intOf]; omega
      have hlook : ∀ o, (Instr.lookup 42 (.map (some w.heap.size)) (.string (C k).rf) false).run Try.prog (wr.alloc o) = .ok (.bool false) (wr.alloc o) := fun o => by
        have := (HS.out.alloc o).look (C k).rf hml
        rw [show (C k).rf.data.toList = rl C k from rfl, decide_eq_false h1] at this
        exact this
      have HT : Hid (refL (lst (rl C) (k + 1)) = refL (lst (rl C) k) ++ [rl C k]) := by rw [Hid, hT, addR, if_neg (by simp [h0, h1])]
      clear hT htl h0 h1
      have HS' := HS
      obtain ⟨D, hD, hat⟩ := HS.out
      have HDm : Hid (wr.ownsMap Try.prog 9 (plainElem Try.prog 4) w.heap.size k D) := hD
      have HAT : Hid (∀ l : List UInt8, D.atKey (.string l) (.lit (.bool false)) = .lit (.bool (decide (l ∈ refL (lst (rl C) k))))) := hat
      have hkey : Hid (keyOf Try.prog 9 (.string (C k).rf) = some (.string (rl C k))) := keyOf_string_mk Try.underlying9 hml
      have him : IsMap D := hD.isMap
      clear hD hat HS HS'
      go_wp2_with (at_mapUpdate; refine wpList_mapUpdate_own _ rfl _ _ _ 42 rfl 9 4 law9 Try.underlying42 _ w.heap.size k _ rfl (HDm.out.alloc _) (by unfold maxLen; omega) _ _ _ rfl rfl hkey.out _ [] (plainElem_bool Try.underlying4 true) ?_)
      intro w2 hm2 hg2
      have hmlt : w.heap.size < wr.heap.size := HDm.out.lt
      have HM2 : Hid (MapSet w2 w.heap.size (k + 1) (refL (lst (rl C) k) ++ [rl C k])) := MapSet.put (rl C k) him HAT.out hm2
      have hc6 : w2.cell? ⟨wr.heap.size, 6, none⟩ = some (.string (C k).rf) := hg2.cell (by simp) (fun e => by have := Option.some.inj e; simp only at this; omega)
      have HO2 : Hid (w2.ownsRow (w.heap.size + 1) 9 1 u3 (refL (lst (rl C) k)).length ((refL (lst (rl C) k)).map sv)) := (HO.out.alloc _).kept hg2 (row_ne HO.out)
      have HB2 : Hid (Below w.heap.size w w2) := (HB.out.alloc hsz _).grown hg2 (by simp; omega) (fun j hj => by cases hj; exact Nat.le_refl _)
      have hz2' : w.heap.size < w2.heap.size := by have := hg2.size; simp at this; omega
      clear hm2 hg2 HDm HAT hkey him HO HB hlook c0 c1 c2 c3 c4 c5 c6
      go_wp2_with (at_builtin; refine wpList_append_own _ rfl _ _ 27 rfl (w.heap.size + 1) 9 i0 (.string ⟨#[]⟩) 1 16 Try.underlying27 hi0 hz0 hz1 hz2 rfl (by decide) _ _ _ rfl (HO2.out.alloc _) ⟨w2.heap.size, 0, none⟩ 1 1 [.string (C k).rf] rfl rfl (cell_one_new _ _ _) (by intro u hu; simp at hu; subst hu; rfl) (by unfold maxLen; omega) (by omega) (by simp; omega) ?_)
      intro v3 w3 hown3 hg3 _
      have R1 : Hid (w3.ownsRow (w.heap.size + 1) 9 1 v3 (refL (lst (rl C) (k + 1))).length ((refL (lst (rl C) (k + 1))).map sv)) := by
        rw [Hid, HT.out, List.length_append, List.length_singleton, List.map_append]
        have e : [rl C k].map sv = [.string (C k).rf] := by
          show [Value.string (bs (C k).rf.data.toList)] = _
          rw [bs_eq]
        rw [e]
        exact hown3
      have R2 : Hid (MapSet w3 w.heap.size (k + 1) (refL (lst (rl C) (k + 1)))) := by
        rw [Hid, HT.out]
        exact (HM2.out.alloc _).kept hg3 (fun e => by
          rcases row_ne HO2.out with h | h
          · rw [h] at e; cases e
          · exact h e.symm)
      have R3 : Hid (Below w.heap.size w w3) := (HB2.out.alloc (by omega) _).grown hg3 (by simp; omega) (fun j hj => row_ge HO2.out hj)
      clear hown3 hg3 HM2 HO2 HB2 hc6
      go_wp2_with fail
      go_roundw
      case rel => exact ⟨k + 1, by omega, by go_num, R1.out, R2.out, R3.out⟩
      case measure => simp [intOf]; omega
    · have R : Hid (GaveStrs w (refL (lst (rl C) n)) (.returned u3) wr) := by
        have hkn : k = n := by omega
        rw [hkn] at hown
        exact ⟨_, rfl, strs_of hown, hbel⟩
      clear hown hset hbel
      go_wp2_with fail
      go_ret
      exact R.out
end Go.Proofs.Qxb6627192a
