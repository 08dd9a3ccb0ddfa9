/-
  SEAT b6600554a: THE PLAIN LAWS: a span in MIT's format, as a list of bytes.
-/
namespace Go.Proofs.Qxb6600554a

def isSp (c : UInt8) : Bool := c == 32 || c == 9 || c == 10 || c == 11 || c == 12 || c == 13
def isSt (c : UInt8) : Bool := c == 32 || c == 9 || c == 10
def isDg (c : UInt8) : Bool := decide (48 ≤ c.toNat) && decide (c.toNat ≤ 57)

def skipB : List UInt8 → List UInt8
  | [] => []
  | c :: l => if isSt c = true then l.dropWhile isSp else c :: l

def dig (c : UInt8) : Nat := c.toNat - 48
def valF (n : Nat) (l : List UInt8) : Nat := l.foldl (fun n c => n * 10 + dig c) n
def val (l : List UInt8) : Nat := valF 0 l

/-- The sign and what stands behind it. -/
def sign : List UInt8 → Bool × List UInt8
  | [] => (false, [])
  | c :: l => if c = 45 then (true, l) else (false, c :: l)

/-- A number without blanks ahead of it. -/
def numS (l : List UInt8) : Option (Int × List UInt8) :=
  let ds := (sign l).2.takeWhile isDg
  if ds = [] ∨ 2147483647 < val ds then none else some ((if (sign l).1 = true then -(val ds : Int) else (val ds : Int)), (sign l).2.dropWhile isDg)

def num (l : List UInt8) : Option (Int × List UInt8) := numS (skipB l)

/-- The place of a unit in "hms". -/
def rk (u : UInt8) : Option Nat := if u = 104 then some 0 else if u = 109 then some 1 else if u = 115 then some 2 else none
def scl : Nat → Int
  | 0 => 3600
  | 1 => 60
  | _ => 1

/-- What 'units' answers: k: how many of "hms" are gone. -/
def U (wr : Int → Int) : Nat → Nat → UInt8 → Int → List UInt8 → Int × Bool
  | 0, _, _, _, _ => (0, false)
  | f + 1, k, last, total, l =>
    match l with
    | [] => (total, true)
    | c :: l' =>
      if isSt c = true ∧ skipB (c :: l') = [] then (total, last != 115)
      else match num (c :: l') with
        | none => (0, false)
        | some (n, r) => match r with
          | [] => (0, false)
          | u :: r' => match rk u with
            | none => (0, false)
            | some j => if j < k then (0, false) else U wr f (j + 1) u (wr (total + n * scl j)) r'

theorem skipB_cons (c : UInt8) (l : List UInt8) : skipB (c :: l) = if isSt c = true then l.dropWhile isSp else c :: l := rfl
theorem sign_cons (c : UInt8) (l : List UInt8) : sign (c :: l) = if c = 45 then (true, l) else (false, c :: l) := rfl
theorem U_cons (wr : Int → Int) (f k : Nat) (last : UInt8) (total : Int) (c : UInt8) (l' : List UInt8) : U wr (f + 1) k last total (c :: l') =
    if isSt c = true ∧ skipB (c :: l') = [] then (total, last != 115)
      else match num (c :: l') with
        | none => (0, false)
        | some (n, r) => match r with
          | [] => (0, false)
          | u :: r' => match rk u with
            | none => (0, false)
            | some j => if j < k then (0, false) else U wr f (j + 1) u (wr (total + n * scl j)) r' := rfl

theorem skipB_len : ∀ l : List UInt8, (skipB l).length ≤ l.length
  | [] => Nat.le_refl _
  | c :: l => by
    rw [skipB_cons]
    split
    · have := (List.dropWhile_sublist (p := isSp) (l := l)).length_le
      rw [List.length_cons]; omega
    · exact Nat.le_refl _

theorem sign_len : ∀ l : List UInt8, (sign l).2.length ≤ l.length
  | [] => Nat.le_refl _
  | c :: l => by
    rw [sign_cons]
    split
    · simp
    · exact Nat.le_refl _

/-! ### what is no letter -/

/-- A unit letter of the model: d, h, m, s. -/
def letter (c : UInt8) : Bool := c == 100 || c == 104 || c == 109 || c == 115

theorem letter_not_sp {c : UInt8} (h : letter c = true) : isSp c = false := by
  unfold letter at h
  simp at h
  rcases h with ((rfl | rfl) | rfl) | rfl <;> rfl
theorem letter_not_st {c : UInt8} (h : letter c = true) : isSt c = false := by
  unfold letter at h
  simp at h
  rcases h with ((rfl | rfl) | rfl) | rfl <;> rfl
theorem letter_not_dg {c : UInt8} (h : letter c = true) : isDg c = false := by
  unfold letter at h
  simp at h
  rcases h with ((rfl | rfl) | rfl) | rfl <;> rfl
theorem letter_not_dash {c : UInt8} (h : letter c = true) : c ≠ 45 := by
  unfold letter at h
  simp at h
  rcases h with ((rfl | rfl) | rfl) | rfl <;> decide
theorem st_sp {c : UInt8} (h : isSt c = true) : isSp c = true := by
  unfold isSt at h
  simp at h
  rcases h with (rfl | rfl) | rfl <;> rfl

theorem dropWhile_app (p : UInt8 → Bool) (c : UInt8) (r : List UInt8) (hc : p c = false) : ∀ l : List UInt8, (l ++ c :: r).dropWhile p = l.dropWhile p ++ c :: r
  | [] => by simp [List.dropWhile, hc]
  | x :: l => by
    rw [List.cons_append, List.dropWhile_cons, List.dropWhile_cons]
    split
    · exact dropWhile_app p c r hc l
    · rfl
theorem takeWhile_app (p : UInt8 → Bool) (c : UInt8) (r : List UInt8) (hc : p c = false) : ∀ l : List UInt8, (l ++ c :: r).takeWhile p = l.takeWhile p
  | [] => by simp [List.takeWhile, hc]
  | x :: l => by
    rw [List.cons_append, List.takeWhile_cons, List.takeWhile_cons, takeWhile_app p c r hc l]

theorem skipB_app {c : UInt8} (hc : letter c = true) (r : List UInt8) : ∀ l : List UInt8, skipB (l ++ c :: r) = skipB l ++ c :: r
  | [] => by simp [skipB, letter_not_st hc]
  | x :: l => by
    rw [List.cons_append, skipB, skipB]
    split
    · exact dropWhile_app isSp c r (letter_not_sp hc) l
    · rfl

theorem sign_app {c : UInt8} (hc : letter c = true) (r : List UInt8) : ∀ l : List UInt8, sign (l ++ c :: r) = ((sign l).1, (sign l).2 ++ c :: r)
  | [] => by simp [sign, letter_not_dash hc]
  | x :: l => by
    rw [List.cons_append, sign, sign]
    split <;> rfl

theorem numS_app {c : UInt8} (hc : letter c = true) (r l : List UInt8) : numS (l ++ c :: r) = (numS l).map (fun p => (p.1, p.2 ++ c :: r)) := by
  unfold numS
  rw [sign_app hc]
  simp only [takeWhile_app isDg c r (letter_not_dg hc), dropWhile_app isDg c r (letter_not_dg hc)]
  split <;> rfl

theorem num_app {c : UInt8} (hc : letter c = true) (r l : List UInt8) : num (l ++ c :: r) = (num l).map (fun p => (p.1, p.2 ++ c :: r)) := by
  unfold num
  rw [skipB_app hc, numS_app hc]

/-- A whole piece is a number. -/
def term (l : List UInt8) : Option Int := match num l with
  | some (n, []) => some n
  | _ => none

/-- The rank in "dhms". -/
def rank (c : UInt8) : Int := if c = 100 then 0 else if c = 104 then 1 else if c = 109 then 2 else if c = 115 then 3 else -1

theorem rk_letter {c : UInt8} {j : Nat} (h : rk c = some j) : letter c = true ∧ j < 3 := by
  unfold rk at h
  by_cases h1 : c = 104
  · rw [if_pos h1] at h; subst h1; cases h; exact ⟨rfl, by omega⟩
  · rw [if_neg h1] at h
    by_cases h2 : c = 109
    · rw [if_pos h2] at h; subst h2; cases h; exact ⟨rfl, by omega⟩
    · rw [if_neg h2] at h
      by_cases h3 : c = 115
      · rw [if_pos h3] at h; subst h3; cases h; exact ⟨rfl, by omega⟩
      · rw [if_neg h3] at h; cases h

/-- What is left behind a number in a piece without letters is no letter. -/
theorem num_rest {l r : List UInt8} {n : Int} (h : num l = some (n, r)) (hl : ∀ c ∈ l, letter c = false) : ∀ c ∈ r, letter c = false := by
  have h1 : ∀ c ∈ skipB l, letter c = false := by
    cases l with
    | nil => exact hl
    | cons x l =>
      rw [skipB_cons]
      split
      · exact fun c hc => hl c (List.mem_cons_of_mem _ ((List.dropWhile_sublist (p := isSp)).subset hc))
      · exact hl
  have h2 : ∀ c ∈ (sign (skipB l)).2, letter c = false := by
    cases hs : skipB l with
    | nil => simp [sign]
    | cons x l' =>
      rw [hs] at h1
      rw [sign_cons]
      split
      · exact fun c hc => h1 c (List.mem_cons_of_mem _ hc)
      · exact h1
  unfold num numS at h
  simp only at h
  split at h
  · cases h
  · cases h
    exact fun c hc => h2 c ((List.dropWhile_sublist (p := isDg)).subset hc)

theorem skipB_nil_app {c : UInt8} (hc : letter c = true) (r l : List UInt8) : skipB (l ++ c :: r) ≠ [] := by
  rw [skipB_app hc]; simp

/-- U at a letter behind a piece without letters. -/
theorem U_letter (wr : Int → Int) (f k : Nat) (last : UInt8) (total : Int) (p r : List UInt8) (c : UInt8) (hc : letter c = true) (hp : ∀ x ∈ p, letter x = false) :
    U wr (f + 1) k last total (p ++ c :: r) = match term p with
      | none => (0, false)
      | some n => match rk c with
        | none => (0, false)
        | some j => if j < k then (0, false) else U wr f (j + 1) c (wr (total + n * scl j)) r := by
  have hne : ∃ x l', p ++ c :: r = x :: l' := by
    cases p with
    | nil => exact ⟨c, r, rfl⟩
    | cons x l => exact ⟨x, l ++ c :: r, rfl⟩
  obtain ⟨x, l', hx⟩ := hne
  rw [hx, U_cons]
  rw [← hx, if_neg (fun h => skipB_nil_app hc r p h.2), num_app hc]
  unfold term
  cases hn : num p with
  | none => rfl
  | some q =>
    obtain ⟨n, r1⟩ := q
    cases r1 with
    | nil => rfl
    | cons y r1 =>
      have hy := num_rest hn hp y (by simp)
      simp only [Option.map_some, List.cons_append]
      cases hr : rk y with
      | none => rfl
      | some j =>
        rw [(rk_letter hr).1] at hy
        cases hy

/-- U behind the last letter. -/
theorem U_end (wr : Int → Int) (f k : Nat) (last : UInt8) (total : Int) (p : List UInt8) (hp : ∀ x ∈ p, letter x = false) :
    U wr (f + 1) k last total p = if p = [] then (total, true) else if skipB p = [] then (total, last != 115) else (0, false) := by
  cases p with
  | nil => rfl
  | cons x l =>
    rw [U_cons, if_neg (show ¬ (x :: l = []) by simp)]
    by_cases hs : skipB (x :: l) = []
    · have hst : isSt x = true := by
        rw [skipB_cons] at hs
        split at hs
        · assumption
        · cases hs
      rw [if_pos ⟨hst, hs⟩, if_pos hs]
    · rw [if_neg (fun h => hs h.2), if_neg hs]
      cases hn : num (x :: l) with
      | none => rfl
      | some q =>
        obtain ⟨n, r1⟩ := q
        cases r1 with
        | nil => rfl
        | cons y r1 =>
          have hy := num_rest hn hp y (by simp)
          simp only
          cases hr : rk y with
          | none => rfl
          | some j =>
            rw [(rk_letter hr).1] at hy
            cases hy

end Go.Proofs.Qxb6600554a
