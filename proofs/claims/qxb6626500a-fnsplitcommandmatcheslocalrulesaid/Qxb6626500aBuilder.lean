import Derived.Test.Qxb6626500aDecode
namespace Go.Proofs.Qxb6626500a
open Go.RowKit

/-- A builder at block b holding the bytes bs; nothing below B has turned since w. -/
structure Bld (w wr : World) (b : Nat) (bs : List UInt8) : Prop where
  is : Lib.IsBuilderF 32 5 w.heap.size b (Lib.byteCells bs) wr
  bel : Below w.heap.size w wr

theorem Bld.fresh (w : World) : Bld w (w.alloc (.cells #[.pointer none, .slice none 0 0] 32)) w.heap.size [] :=
  ⟨Lib.IsBuilderF.of (Lib.fresh_isBuilder 32 5 w), (Below.refl _ _).alloc (Nat.le_refl _) _⟩

def PutByte (w : World) (b : Nat) (bs : List UInt8) (e : Ending) (w' : World) : Prop := e = .returned .nilIface ∧ Bld w w' b bs

theorem put14 {w wr : World} {b : Nat} {bs : List UInt8} (h : Bld w wr b bs) (hl : bs.length ≤ 4194304) (x : UInt8) :
    Calls Try.prog 14 #[.pointer (some ⟨b, 0, none⟩), .int .u8 x.toNat] wr (PutByte w b (bs ++ [x])) := by
  refine (Try.Builder_WriteByte_k w.heap.size b (Lib.byteCells bs) x.toNat wr h.is (by rw [Lib.byteCells_length]; omega) h.bel.size).mono ?_
  rintro e w' ⟨rfl, hb, hbel, _⟩
  refine ⟨rfl, ?_, h.bel.trans hbel⟩
  have e2 : Lib.byteCells (bs ++ [x]) = Lib.byteCells bs ++ [.int .u8 x.toNat] := by simp [Lib.byteCells]
  rw [e2]
  exact Or.inr hb

def GotString (w : World) (b : Nat) (bs : List UInt8) (e : Ending) (w' : World) : Prop := e = .returned (.string ⟨bs.toArray⟩) ∧ Bld w w' b bs

theorem str12 {w wr : World} {b : Nat} {bs : List UInt8} (h : Bld w wr b bs) : Calls Try.prog 12 #[.pointer (some ⟨b, 0, none⟩)] wr (GotString w b bs) := by
  refine (Try.Builder_String_any_f w.heap.size b bs wr h.is h.bel.size).mono ?_
  rintro e w' ⟨rfl, hb, hbel⟩
  exact ⟨rfl, hb, h.bel.trans hbel⟩

def DidReset (w : World) (b : Nat) (e : Ending) (w' : World) : Prop := e = .returned (.tuple #[]) ∧ Bld w w' b []

set_option maxHeartbeats 400000 in
theorem reset13 {w wr : World} {b : Nat} {bs : List UInt8} (h : Bld w wr b bs) : Calls Try.prog 13 #[.pointer (some ⟨b, 0, none⟩)] wr (DidReset w b) := by
  obtain ⟨p, hat⟩ : ∃ p, Lib.BuilderAtF 32 5 w.heap.size b p (Lib.byteCells bs) wr := h.is.elim (fun x => ⟨_, x⟩) (fun x => ⟨_, x⟩)
  obtain ⟨hB, v, hb, _⟩ := hat.used (.pointer none)
  have hB0 : w.heap.size ≤ b := hB
  have c0 := hat.cell0
  have f0 := hat.frozen0
  have c1 : (wr.setCell ⟨b, 0, none⟩ (.pointer none)).cell? ⟨b, 1, none⟩ = some v := by rw [Lib.cell_of_heap hb]; rfl
  have f1 : (wr.setCell ⟨b, 0, none⟩ (.pointer none)).frozen? ⟨b, 1, none⟩ = false := Lib.frozen_of_heap hb 1
  have fin : Hid (Bld w ((wr.setCell ⟨b, 0, none⟩ (.pointer none)).setCell ⟨b, 1, none⟩ (.slice none 0 0)) b []) :=
    ⟨Or.inl (Lib.BuilderAtF.put hB hb (World.ownsRowF_nil _ _ _ _) (by decide)), (h.bel.setCell hB0 _).setCell hB0 _⟩
  clear hb hat h hB hB0
  go_enter Try.func13, Try.ntmps13
  go_wp2_with fail
  go_end0
  exact ⟨rfl, fin.out⟩

end Go.Proofs.Qxb6626500a
