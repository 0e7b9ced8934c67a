import Derived.Lib.Strings
namespace Go.Proofs.Qxb6626500a

/-- SplitCommand's loop from a state on: has it split, the command, what the builder holds, the rest. -/
def splitAux (sp : Bool) (c b : List UInt8) : List UInt8 → Bool × List UInt8 × List UInt8
  | [] => (sp, c, b)
  | x :: r =>
    if x = 92 ∧ r.head? = some 37 then
      match r with
      | [] => (sp, c, b)
      | _ :: r' => splitAux sp c (b ++ [37]) r'
    else if x = 37 then (if sp then splitAux sp c (b ++ [10]) r else splitAux true b [] r)
    else splitAux sp c (b ++ [x]) r

/-- Each byte by its left neighbour p (0 where there is none) and by whether a '%' follows. -/
def dl (p : UInt8) : List UInt8 → List UInt8
  | [] => []
  | x :: r => (if x = 92 ∧ r.head? = some 37 then [] else if x = 37 then (if p = 92 then [37] else [10]) else [x]) ++ dl x r

/-- The first separator. -/
def fs (p : UInt8) : List UInt8 → Option Nat
  | [] => none
  | x :: r => if x = 37 ∧ p ≠ 92 then some 0 else (fs x r).map (· + 1)

def endL (x : List UInt8) : List UInt8 := if x ≠ [] ∧ x.getLast? ≠ some 10 then x ++ [10] else x

def splitR (l : List UInt8) : List UInt8 × List UInt8 :=
  match splitAux false [] [] l with
  | (true, c, b) => (c, endL b)
  | (false, _, b) => (b, [])

def modelR (l : List UInt8) : List UInt8 × List UInt8 :=
  match fs 0 l with
  | none => (dl 0 l, [])
  | some k => (dl 0 (l.take k), endL (dl 37 (l.drop (k + 1))))

theorem dl_any {p q : UInt8} (hp : p ≠ 92) (hq : q ≠ 92) (l : List UInt8) : dl p l = dl q l := by
  cases l with
  | nil => rfl
  | cons x r => simp [dl, hp, hq]

theorem dl_head {p q : UInt8} {l : List UInt8} (h : l.head? ≠ some 37) : dl p l = dl q l := by
  cases l with
  | nil => rfl
  | cons x r =>
    have hx : x ≠ 37 := by simpa using h
    simp [dl, hx]

theorem fs_any {p q : UInt8} (hp : p ≠ 92) (hq : q ≠ 92) (l : List UInt8) : fs p l = fs q l := by
  cases l with
  | nil => rfl
  | cons x r => simp [fs, hp, hq]

theorem fs_head {p q : UInt8} {l : List UInt8} (h : l.head? ≠ some 37) : fs p l = fs q l := by
  cases l with
  | nil => rfl
  | cons x r =>
    have hx : x ≠ 37 := by simpa using h
    simp [fs, hx]

theorem splitAux_esc (sp : Bool) (c b r : List UInt8) : splitAux sp c b (92 :: 37 :: r) = splitAux sp c (b ++ [37]) r := by simp [splitAux]

theorem splitAux_pct (sp : Bool) (c b r : List UInt8) : splitAux sp c b (37 :: r) = if sp then splitAux sp c (b ++ [10]) r else splitAux true b [] r := by
  cases r <;> simp [splitAux]

theorem splitAux_other (sp : Bool) (c b r : List UInt8) (x : UInt8) (h1 : ¬ (x = 92 ∧ r.head? = some 37)) (h2 : ¬ x = 37) : splitAux sp c b (x :: r) = splitAux sp c (b ++ [x]) r := by
  cases r with
  | nil => simp [splitAux, h2]
  | cons y r => rw [splitAux, if_neg h1, if_neg h2]

/-- Behind the split. -/
theorem split_true (n : Nat) : ∀ (l : List UInt8), l.length ≤ n → ∀ (p : UInt8) (c b : List UInt8), (p = 92 → l.head? ≠ some 37) → splitAux true c b l = (true, c, b ++ dl p l) := by
  induction n with
  | zero =>
    intro l hl p c b _
    match l, hl with
    | [], _ => simp [splitAux, dl]
  | succ n ih =>
    intro l hl p c b hp
    match l, hl with
    | [], _ => simp [splitAux, dl]
    | x :: r, hl =>
      simp only [List.length_cons] at hl
      by_cases h1 : x = 92 ∧ r.head? = some 37
      · obtain ⟨rfl, hr⟩ := h1
        match r, hr with
        | y :: r', hr =>
          have hy : y = 37 := by simpa using hr
          subst hy
          simp only [List.length_cons] at hl
          have e := ih r' (by omega) 37 c (b ++ [37]) (fun h => absurd h (by decide))
          simp [splitAux, dl, e]
      · by_cases h2 : x = 37
        · subst h2
          have hp' : p ≠ 92 := fun h => hp h rfl
          have e := ih r (by omega) 37 c (b ++ [10]) (fun h => absurd h (by decide))
          rw [splitAux_pct, if_pos rfl, e]
          simp [dl, hp']
        · have e := ih r (by omega) x c (b ++ [x]) (fun h hr => h1 ⟨h, hr⟩)
          rw [splitAux_other _ _ _ _ _ h1 h2, e]
          simp only [dl, if_neg h1, if_neg h2, List.append_assoc]

/-- Ahead of it. -/
theorem split_false (n : Nat) : ∀ (l : List UInt8), l.length ≤ n → ∀ (p : UInt8) (c b : List UInt8), (p = 92 → l.head? ≠ some 37) →
    splitAux false c b l = match fs p l with
      | none => (false, c, b ++ dl p l)
      | some k => (true, b ++ dl p (l.take k), dl 37 (l.drop (k + 1))) := by
  induction n with
  | zero =>
    intro l hl p c b _
    match l, hl with
    | [], _ => simp [splitAux, dl, fs]
  | succ n ih =>
    intro l hl p c b hp
    match l, hl with
    | [], _ => simp [splitAux, dl, fs]
    | x :: r, hl =>
      simp only [List.length_cons] at hl
      by_cases h1 : x = 92 ∧ r.head? = some 37
      · obtain ⟨rfl, hr⟩ := h1
        match r, hr with
        | y :: r', hr =>
          have hy : y = 37 := by simpa using hr
          subst hy
          simp only [List.length_cons] at hl
          have e := ih r' (by omega) 37 c (b ++ [37]) (fun h => absurd h (by decide))
          have hf : fs p (92 :: 37 :: r') = ((fs 37 r').map (· + 1)).map (· + 1) := by simp [fs]
          rw [hf]
          cases hk : fs 37 r' with
          | none =>
            rw [hk] at e
            simp [splitAux, dl, e]
          | some k =>
            rw [hk] at e
            simp [splitAux, dl, e]
      · by_cases h2 : x = 37
        · subst h2
          have hp' : p ≠ 92 := fun h => hp h rfl
          have e := split_true r.length r (Nat.le_refl _) 37 b [] (fun h => absurd h (by decide))
          rw [splitAux_pct, if_neg (by simp), e]
          simp [fs, hp', dl]
        · have e := ih r (by omega) x c (b ++ [x]) (fun h hr => h1 ⟨h, hr⟩)
          have hf : fs p (x :: r) = (fs x r).map (· + 1) := by simp [fs, h2]
          rw [hf]
          rw [splitAux_other _ _ _ _ _ h1 h2, e]
          cases hk : fs x r with
          | none => simp only [Option.map_none, dl, if_neg h1, if_neg h2, List.append_assoc]
          | some k =>
            have h3 : ¬ (x = 92 ∧ (r.take k).head? = some 37) := by
              intro ⟨hx, hh⟩
              apply h1
              refine ⟨hx, ?_⟩
              cases k with
              | zero => simp at hh
              | succ k => cases r with
                | nil => simp at hh
                | cons y r' => simpa using hh
            simp only [Option.map_some, List.take_succ_cons, List.drop_succ_cons, dl, if_neg h3, if_neg h2, List.append_assoc]

theorem splitR_eq (l : List UInt8) : splitR l = modelR l := by
  have e := split_false l.length l (Nat.le_refl _) 0 [] [] (fun h => absurd h (by decide))
  unfold splitR modelR
  rw [e]
  cases fs 0 l with
  | none => simp
  | some k => simp

/-- What lies before a separator, a newline, what lies behind. -/
theorem dl_split {l : List UInt8} {p : UInt8} {k : Nat} (h : fs p l = some k) : dl p l = dl p (l.take k) ++ 10 :: dl 37 (l.drop (k + 1)) := by
  induction l generalizing p k with
  | nil => simp [fs] at h
  | cons x r ih =>
    by_cases h1 : x = 37 ∧ p ≠ 92
    · obtain ⟨rfl, hp⟩ := h1
      have : k = 0 := by simpa [fs, hp] using h.symm
      subst this
      simp [dl, hp]
    · have hf : fs p (x :: r) = (fs x r).map (· + 1) := by simp only [fs, if_neg h1]
      rw [hf] at h
      cases hk : fs x r with
      | none => rw [hk] at h; simp at h
      | some m =>
        rw [hk] at h
        have hkm : k = m + 1 := by simpa using h.symm
        subst hkm
        have e := ih hk
        have hh : (x = 92 ∧ r.head? = some 37) ↔ (x = 92 ∧ (r.take m).head? = some 37) := by
          constructor
          · intro ⟨hx, hr⟩
            subst hx
            refine ⟨rfl, ?_⟩
            cases m with
            | zero =>
              cases r with
              | nil => simp at hr
              | cons y r' =>
                have hy : y = 37 := by simpa using hr
                subst hy
                exact absurd hk (by simp [fs])
            | succ m => cases r with
              | nil => simp at hr
              | cons y r' => simpa using hr
          · intro ⟨hx, hr⟩
            refine ⟨hx, ?_⟩
            cases m with
            | zero => simp at hr
            | succ m => cases r with
              | nil => simp at hr
              | cons y r' => simpa using hr
        simp only [List.take_succ_cons, List.drop_succ_cons, dl, e, hh, List.append_assoc]

theorem endL_app (x y : List UInt8) : endL (x ++ 10 :: y) = x ++ 10 :: endL y := by
  unfold endL
  cases y with
  | nil => simp
  | cons a r =>
    have h : (x ++ 10 :: a :: r).getLast? = (a :: r).getLast? := by
      rw [List.getLast?_append, List.getLast?_cons_cons]
      cases h : (a :: r).getLast? with
      | none => simp at h
      | some z => rfl
    rw [h]
    by_cases e : (a :: r).getLast? = some 10
    · simp [e]
    · simp [e]

/-- A text without a separator that does not end in a backslash, a '%', any text. -/
theorem fs_app {w t : List UInt8} {p : UInt8} (h : fs p w = none) (hl : w.getLast? ≠ some 92) (hp : w = [] → p ≠ 92) : fs p (w ++ 37 :: t) = some w.length := by
  induction w generalizing p with
  | nil => simp [fs, hp rfl]
  | cons x r ih =>
    by_cases h1 : x = 37 ∧ p ≠ 92
    · exact absurd h (by simp only [fs, if_pos h1]; simp)
    · have hf : (fs x r).map (· + 1) = none := by simpa only [fs, if_neg h1] using h
      have hn : fs x r = none := by simpa using hf
      have e := ih hn (by
          cases r with
          | nil => simp
          | cons y r' => simpa using hl) (by
          intro hr
          subst hr
          simpa using hl)
      simp only [List.cons_append, fs, if_neg h1, e, List.length_cons, Option.map_some]

theorem append_law (w t : List UInt8) (h : fs 0 w = none) (hl : w.getLast? ≠ some 92) :
    splitR w = (dl 0 w, []) ∧ (splitR (w ++ 37 :: t)).1 = dl 0 w ∧ (∀ k, fs 0 t = some k → (splitR (w ++ 37 :: t)).2 = (splitR t).1 ++ 10 :: (splitR t).2) ∧
      (fs 0 t = none → (splitR t).2 = [] ∧ (splitR (w ++ 37 :: t)).2 = endL (splitR t).1) := by
  have e1 : splitR w = (dl 0 w, []) := by rw [splitR_eq, modelR, h]
  have e2 : splitR (w ++ 37 :: t) = (dl 0 w, endL (dl 37 t)) := by
    rw [splitR_eq, modelR, fs_app h hl (fun _ => by decide)]
    simp
  refine ⟨e1, by rw [e2], ?_, ?_⟩
  · intro k hk
    rw [e2, splitR_eq t, modelR, hk]
    show endL (dl 37 t) = _
    rw [dl_any (p := 37) (q := 0) (by decide) (by decide), dl_split hk, endL_app]
  · intro hk
    rw [e2, splitR_eq t, modelR, hk]
    refine ⟨rfl, ?_⟩
    show endL (dl 37 t) = endL (dl 0 t)
    rw [dl_any (p := 37) (q := 0) (by decide) (by decide)]

end Go.Proofs.Qxb6626500a
