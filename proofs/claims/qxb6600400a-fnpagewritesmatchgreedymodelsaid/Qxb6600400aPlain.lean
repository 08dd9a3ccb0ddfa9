/-
  THE PLAIN LAWS OF SEAT b6600400a: no Go in sight: what 'pageWrites' computes, as a list of pairs (from, to).
-/
import Derived.Lib.Bytealg
namespace Go.Proofs.Qxb6600400a.Plain
open Go

/-- The end of the line that begins at e: just behind the next newline, or the input's end. -/
def nxt (L : List UInt8) (e : Nat) : Nat := if Lib.indexByte (L.drop e) 10 = -1 then L.length else e + (Lib.indexByte (L.drop e) 10).toNat + 1

theorem index_lt (q : UInt8) : ∀ (l : List UInt8) (k : Nat), Lib.indexByte l q = (k : Int) → k < l.length
  | [], k, h => by unfold Lib.indexByte at h; omega
  | b :: l, k, h => by
    unfold Lib.indexByte at h
    by_cases hb : (b == q) = true
    · rw [if_pos hb] at h; simp; omega
    · rw [if_neg hb] at h
      by_cases h2 : (Lib.indexByte l q == -1) = true
      · rw [if_pos h2] at h; omega
      · rw [if_neg h2] at h
        have := index_lt q l (k - 1) (by have := Lib.indexByte_ge l q; have h3 : Lib.indexByte l q ≠ -1 := by simpa using h2
                                         omega)
        simp; omega

theorem index_cases (L : List UInt8) (e : Nat) : (Lib.indexByte (L.drop e) 10 = -1 ∧ nxt L e = L.length) ∨ ∃ k : Nat, Lib.indexByte (L.drop e) 10 = (k : Int) ∧ nxt L e = e + k + 1 ∧ e + k < L.length := by
  by_cases h : Lib.indexByte (L.drop e) 10 = -1
  · exact .inl ⟨h, by unfold nxt; rw [if_pos h]⟩
  · have hge := Lib.indexByte_ge (L.drop e) 10
    obtain ⟨k, hk⟩ : ∃ k : Nat, Lib.indexByte (L.drop e) 10 = (k : Int) := ⟨(Lib.indexByte (L.drop e) 10).toNat, by omega⟩
    have hlt := index_lt 10 (L.drop e) k hk
    rw [List.length_drop] at hlt
    exact .inr ⟨k, hk, by unfold nxt; rw [if_neg h, hk]; simp, by omega⟩

theorem nxt_gt (L : List UInt8) (e : Nat) (h : e < L.length) : e < nxt L e ∧ nxt L e ≤ L.length := by
  rcases index_cases L e with ⟨_, h2⟩ | ⟨k, _, h2, h3⟩
  · omega
  · omega

/-- Do the bytes s .. x-1, written at off, cross pages? -/
def crosses (off : Int) (s x : Nat) : Bool := (off + s) / 4096 != (off + x - 1) / 4096

/-- What is left to be written, a run from s to e being open: the pairs. -/
def pw (off : Int) (L : List UInt8) : Nat → Nat → Nat → List (Nat × Nat)
  | 0, _, _ => []
  | f + 1, s, e =>
    if e < L.length then
      if crosses off s (nxt L e) = true then
        (if s < e then [(s, e)] else []) ++ (if crosses off e (nxt L e) = true then (e, nxt L e) :: pw off L f (nxt L e) (nxt L e) else pw off L f e (nxt L e))
      else pw off L f s (nxt L e)
    else if s < L.length then [(s, L.length)] else []

theorem crosses_later (off : Int) (k : Int) (s x : Nat) : crosses (off + k * 4096) s x = crosses off s x := by
  unfold crosses
  have h1 : (off + k * 4096 + (s : Int)) / 4096 = (off + s) / 4096 + k := by omega
  have h2 : (off + k * 4096 + (x : Int) - 1) / 4096 = (off + x - 1) / 4096 + k := by omega
  rw [h1, h2, Bool.eq_iff_iff]
  simp only [bne_iff_ne, ne_eq]
  omega

theorem pw_later (off : Int) (k : Int) (L : List UInt8) : ∀ (f s e : Nat), pw (off + k * 4096) L f s e = pw off L f s e
  | 0, _, _ => rfl
  | f + 1, s, e => by
    rw [pw, pw, crosses_later, crosses_later, pw_later off k L f, pw_later off k L f, pw_later off k L f]

/-- The pairs tile what lies between s and n. -/
def Tiles (n : Nat) : Nat → List (Nat × Nat) → Prop
  | s, [] => s = n
  | s, p :: l => p.1 = s ∧ p.1 < p.2 ∧ p.2 ≤ n ∧ Tiles n p.2 l

theorem tiles_append (n : Nat) : ∀ (l m : List (Nat × Nat)) (s t : Nat), (∀ p ∈ l, p.2 ≤ n) → Tiles t s l → t ≤ n → Tiles n t m → Tiles n s (l ++ m)
  | [], m, s, t, _, h, _, h2 => by simp only [Tiles] at h; subst h; simpa using h2
  | p :: l, m, s, t, hn, h, ht, h2 => by
    simp only [Tiles] at h
    obtain ⟨h1, h3, h4, h5⟩ := h
    rw [List.cons_append]
    exact ⟨h1, h3, by omega, tiles_append n l m p.2 t (fun q hq => hn q (by simp [hq])) h5 ht h2⟩

theorem pw_tiles (off : Int) (L : List UInt8) : ∀ (f s e : Nat), s ≤ e → e ≤ L.length → L.length - e < f → Tiles L.length s (pw off L f s e)
  | 0, _, _, _, _, h => by omega
  | f + 1, s, e, h1, h2, h3 => by
    rw [pw]
    by_cases he : e < L.length
    · rw [if_pos he]
      have hx := nxt_gt L e he
      by_cases hc : crosses off s (nxt L e) = true
      · rw [if_pos hc]
        have hrest : Tiles L.length e (if crosses off e (nxt L e) = true then (e, nxt L e) :: pw off L f (nxt L e) (nxt L e) else pw off L f e (nxt L e)) := by
          by_cases hc2 : crosses off e (nxt L e) = true
          · rw [if_pos hc2]
            exact ⟨rfl, hx.1, hx.2, pw_tiles off L f _ _ (Nat.le_refl _) hx.2 (by omega)⟩
          · rw [if_neg hc2]
            exact pw_tiles off L f e _ (by omega) hx.2 (by omega)
        by_cases hse : s < e
        · rw [if_pos hse, List.singleton_append]
          exact ⟨rfl, hse, h2, hrest⟩
        · rw [if_neg hse, List.nil_append]
          obtain rfl : s = e := by omega
          exact hrest
      · rw [if_neg hc]
        exact pw_tiles off L f s _ (by omega) hx.2 (by omega)
    · rw [if_neg he]
      by_cases hs : s < L.length
      · rw [if_pos hs]; exact ⟨rfl, hs, Nat.le_refl _, rfl⟩
      · rw [if_neg hs]; simp only [Tiles]; omega

/-- All that 'pageWrites' writes. -/
def cuts (off : Int) (L : List UInt8) : List (Nat × Nat) := pw off L (L.length + 1) 0 0

theorem cuts_later (off : Int) (k : Int) (L : List UInt8) : cuts (off + k * 4096) L = cuts off L := pw_later off k L _ _ _
theorem cuts_tiles (off : Int) (L : List UInt8) : Tiles L.length 0 (cuts off L) := pw_tiles off L _ _ _ (Nat.le_refl _) (Nat.zero_le _) (by omega)

/-- Where the i-th pair begins. -/
def at_ (l : List (Nat × Nat)) (i n : Nat) : Nat := match l[i]? with | some p => p.1 | none => n

theorem tiles_le (n : Nat) : ∀ (l : List (Nat × Nat)) (s : Nat), Tiles n s l → s ≤ n
  | [], s, h => by simp only [Tiles] at h; omega
  | p :: l, s, h => by simp only [Tiles] at h; omega

theorem tiles_at (n : Nat) : ∀ (l : List (Nat × Nat)) (s i : Nat), Tiles n s l → ∀ p, l[i]? = some p → s ≤ p.1 ∧ p.1 < p.2 ∧ p.2 ≤ n ∧ at_ l (i + 1) n = p.2 ∧ at_ l i n = p.1
  | [], s, i, _, p, h => by simp at h
  | q :: l, s, 0, h, p, hp => by
    simp only [Tiles] at h
    simp at hp
    subst hp
    obtain ⟨h1, h2, h3, h4⟩ := h
    refine ⟨by omega, h2, h3, ?_, rfl⟩
    cases l with
    | nil => simp only [Tiles] at h4; unfold at_; simp; omega
    | cons r l => simp only [Tiles] at h4; unfold at_; simp; omega
  | q :: l, s, i + 1, h, p, hp => by
    simp only [Tiles] at h
    obtain ⟨h1, h2, h3, h4⟩ := h
    obtain ⟨a, b, c, d, e⟩ := tiles_at n l q.2 i h4 p (by simpa using hp)
    exact ⟨by omega, b, c, by simpa [at_] using d, by simpa [at_] using e⟩

theorem tiles_len (n : Nat) : ∀ (l : List (Nat × Nat)) (s : Nat), Tiles n s l → l.length ≤ n - s
  | [], s, h => by simp
  | p :: l, s, h => by
    simp only [Tiles] at h
    have := tiles_len n l p.2 h.2.2.2
    simp
    omega

theorem at_zero (n : Nat) (l : List (Nat × Nat)) (h : Tiles n 0 l) : at_ l 0 n = 0 := by
  cases l with
  | nil => simp only [Tiles] at h; simp [at_]; omega
  | cons p l => simp only [Tiles] at h; simp [at_]; omega

theorem at_end (l : List (Nat × Nat)) (i n : Nat) (h : l.length ≤ i) : at_ l i n = n := by
  unfold at_; rw [List.getElem?_eq_none h]

end Go.Proofs.Qxb6600400a.Plain
