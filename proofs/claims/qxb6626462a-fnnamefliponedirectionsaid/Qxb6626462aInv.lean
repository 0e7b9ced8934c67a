import Derived.Test.Qxb6626462aPart
namespace Go.Proofs.Qxb6626462a
open Go.RowKit

/-- The name of the entries from lo to hi. -/
def nameS (NS : Nat → ByteArray) (DS : Nat → Bool) (lo hi : Nat) : ByteArray := ⟨(nameL (fun i => NS (lo + i)) (fun i => DS (lo + i)) (hi - lo)).toArray⟩

theorem Fresh.at_ {B : Nat} {w : World} {E : TypeId} {n : Nat} {F : Nat → Value} {v : Value} (h : Fresh B w E n F v) : ∃ a, v = .slice a n n ∧ At w w.heap.size a n F := by
  rcases h with ⟨rfl, rfl⟩ | ⟨b, rfl, _, hr⟩
  · exact ⟨none, rfl, Or.inl rfl⟩
  · exact ⟨_, rfl, Or.inr ⟨b, 0, rfl, hr.lt, fun i hi => by rw [Nat.zero_add]; exact hr.cell hi⟩⟩

def SlAt (w : World) (a : Option Addr) (n : Nat) : Prop := ∃ F, At w w.heap.size a n F ∧ ∀ i, i < n → ∃ a l c, F i = .slice a l c

theorem slAt_of {w : World} {n B : Nat} {v : Value} (h : (v = .slice none 0 0 ∧ n = 0) ∨ ∃ b, v = .slice (some ⟨b, 0, none⟩) n n ∧ B ≤ b ∧ SlRow w b 24 n) : ∃ a, v = .slice a n n ∧ SlAt w a n := by
  rcases h with ⟨rfl, rfl⟩ | ⟨b, rfl, _, G, hr, hG⟩
  · exact ⟨none, rfl, fun _ => .slice none 0 0, Or.inl rfl, fun i hi => absurd hi (Nat.not_lt_zero i)⟩
  · exact ⟨_, rfl, G, Or.inr ⟨b, 0, rfl, hr.lt, fun i hi => by rw [Nat.zero_add]; exact hr.cell hi⟩, hG⟩

theorem SlAt.below {w w' : World} {a : Option Addr} {n : Nat} (h : SlAt w a n) (hb : Below w.heap.size w w') : SlAt w' a n := by
  obtain ⟨F, h1, h2⟩ := h
  exact ⟨F, h1.below hb hb.size, h2⟩

/-- What the law's own three copies hold, in the world as it stands. -/
structure Trio (w0 w : World) (ap ad an : Option Addr) (n : Nat) (DS : Nat → Bool) (NS : Nat → ByteArray) : Prop where
  p : SlAt w ap n
  d : At w w.heap.size ad n (fun i => .bool (DS i))
  s : At w w.heap.size an n (fun i => .string (NS i))
  b : Below w0.heap.size w0 w
  hn : n ≤ 1048576
  l : ∀ i, i < n → (NS i).size ≤ 1048576

theorem Trio.step {w0 w w' : World} {ap ad an : Option Addr} {n : Nat} {DS : Nat → Bool} {NS : Nat → ByteArray} (h : Trio w0 w ap ad an n DS NS) (hb : Below w.heap.size w w') : Trio w0 w' ap ad an n DS NS :=
  ⟨h.p.below hb, h.d.below hb hb.size, h.s.below hb hb.size, h.b.trans (hb.mono h.b.size), h.hn, h.l⟩

/-- A key over the entries from lo to hi, behind pointer b. -/
structure KeyAt (w : World) (b n lo hi : Nat) (ad an : Option Addr) : Prop where
  lt : b < w.heap.size
  c0 : ∃ b2, w.cell? ⟨b, 0, none⟩ = some (.slice (some ⟨b2, 0, none⟩) (hi - lo) (hi - lo))
  c1 : w.cell? ⟨b, 1, none⟩ = some (.slice (cutA ad lo n) (hi - lo) (n - lo))
  c2 : w.cell? ⟨b, 2, none⟩ = some (.slice (cutA an lo n) (hi - lo) (n - lo))

def Parted (w : World) (n lo hi : Nat) (ad an : Option Addr) (e : Ending) (w' : World) : Prop :=
  ∃ b, e = .returned (.pointer (some ⟨b, 0, none⟩)) ∧ KeyAt w' b n lo hi ad an ∧ Below w.heap.size w w'

theorem partI {w0 w : World} {ap ad an : Option Addr} {n : Nat} {DS : Nat → Bool} {NS : Nat → ByteArray} (h : Trio w0 w ap ad an n DS NS) (lo hi : Nat) (hlo : lo ≤ hi) (hhi : hi ≤ n) :
    Calls Try.prog 10 #[.slice ap n n, .slice ad n n, .slice an n n, .int .i64 lo, .int .i64 hi] w (Parted w n lo hi ad an) := by
  obtain ⟨F, h1, h2⟩ := h.p
  refine (part10 w ap ad an n lo hi h.hn hlo hhi F _ _ h1 h.d h.s h2).mono ?_
  rintro e w' ⟨b, b2, rfl, _, k2, k3, k4, k5, k6⟩
  exact ⟨b, rfl, ⟨k2, ⟨b2, k3⟩, k4, k5⟩, k6⟩

def Spelt (w : World) (s : ByteArray) (e : Ending) (w' : World) : Prop := e = .returned (.string s) ∧ Below w.heap.size w w'

theorem nameI {w0 w : World} {ap ad an : Option Addr} {n : Nat} {DS : Nat → Bool} {NS : Nat → ByteArray} (h : Trio w0 w ap ad an n DS NS) {b lo hi : Nat} (hhi : hi ≤ n) (hk : KeyAt w b n lo hi ad an) :
    Calls Try.prog 11 #[.pointer (some ⟨b, 0, none⟩)] w (Spelt w (nameS NS DS lo hi)) := by
  obtain ⟨b2, c0⟩ := hk.c0
  exact name11 w b _ _ _ (hi - lo) _ _ _ (fun i => NS (lo + i)) (fun i => DS (lo + i)) (by have := h.hn; omega) hk.lt c0 hk.c1 hk.c2 (h.d.cut lo hi hhi) (h.s.cut lo hi hhi) (fun i hi => h.l _ (by omega))

theorem nameS_le (NS : Nat → ByteArray) (DS : Nat → Bool) (lo hi n : Nat) (hn : n ≤ 1048576) (hhi : hi ≤ n) (h : ∀ i, i < n → (NS i).size ≤ 1048576) : (nameS NS DS lo hi).size ≤ 4398046511104 := by
  have := nameL_le (fun i => NS (lo + i)) (fun i => DS (lo + i)) (hi - lo) (by omega) (fun i hi => h _ (by omega))
  unfold nameS
  simpa [ByteArray.size] using this

theorem dir12 (d : Bool) (w : World) : Calls Try.prog 12 #[.bool d] w fun e w' => e = .returned (.string (dirB d)) ∧ w' = w := by
  cases d
  · go_enter Try.func12, Try.ntmps12
    go_wp2_with fail
    go_ret
    exact ⟨rfl, rfl⟩
  · go_enter Try.func12, Try.ntmps12
    go_wp2_with fail
    go_ret
    exact ⟨rfl, rfl⟩

end Go.Proofs.Qxb6626462a
