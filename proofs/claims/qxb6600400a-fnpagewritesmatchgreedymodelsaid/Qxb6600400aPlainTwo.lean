/-
  THE PLAIN LAWS OF SEAT b6600400a, TWO: the cuts are aligned to lines and bound to pages.
-/
import Derived.Test.Qxb6600400aPlain
namespace Go.Proofs.Qxb6600400a.Plain
open Go

def page (o : Int) (i : Nat) : Int := (o + i) / 4096

theorem page_mono {o : Int} {i j : Nat} (h : i ≤ j) : page o i ≤ page o j := by unfold page; omega

theorem crosses_iff {o : Int} {s x : Nat} (h : 0 < x) : crosses o s x = true ↔ page o s ≠ page o (x - 1) := by
  unfold crosses page
  rw [bne_iff_ne]
  have e : (o + ((x - 1 : Nat) : Int)) = o + x - 1 := by omega
  rw [e]

/-- What is said of the pairs. -/
def Good (o : Int) (L : List UInt8) : List (Nat × Nat) → Prop
  | [] => True
  | p :: l => (p.2 < L.length → L.getD (p.2 - 1) 0 = 10) ∧ ((∃ j, p.1 ≤ j ∧ j + 1 < p.2 ∧ L.getD j 0 = 10) → page o p.1 = page o (p.2 - 1)) ∧ (∀ q, l.head? = some q → page o p.1 ≠ page o (q.2 - 1)) ∧ Good o L l

theorem index_at (q : UInt8) : ∀ (l : List UInt8) (k : Nat), Lib.indexByte l q = (k : Int) → l.getD k 0 = q ∧ ∀ j, j < k → l.getD j 0 ≠ q
  | [], k, h => by unfold Lib.indexByte at h; omega
  | b :: l, k, h => by
    unfold Lib.indexByte at h
    by_cases hb : (b == q) = true
    · rw [if_pos hb] at h
      obtain rfl : k = 0 := by omega
      exact ⟨by simpa using hb, fun j hj => absurd hj (by omega)⟩
    · rw [if_neg hb] at h
      by_cases h2 : (Lib.indexByte l q == -1) = true
      · rw [if_pos h2] at h; omega
      · rw [if_neg h2] at h
        have hge := Lib.indexByte_ge l q
        have h3 : Lib.indexByte l q ≠ -1 := by simpa using h2
        obtain ⟨m, rfl⟩ : ∃ m, k = m + 1 := ⟨k - 1, by omega⟩
        obtain ⟨h4, h5⟩ := index_at q l m (by omega)
        refine ⟨by simpa using h4, fun j hj => ?_⟩
        cases j with
        | zero => simpa using hb
        | succ j => simpa using h5 j (by omega)

theorem index_none (q : UInt8) : ∀ (l : List UInt8), Lib.indexByte l q = -1 → ∀ j, j < l.length → l.getD j 0 ≠ q
  | [], _, j, hj => by simp at hj
  | b :: l, h, j, hj => by
    unfold Lib.indexByte at h
    by_cases hb : (b == q) = true
    · rw [if_pos hb] at h; cases h
    · rw [if_neg hb] at h
      have hge := Lib.indexByte_ge l q
      have hl : Lib.indexByte l q = -1 := by
        by_cases h2 : (Lib.indexByte l q == -1) = true
        · simpa using h2
        · rw [if_neg h2] at h; omega
      cases j with
      | zero => simpa using hb
      | succ j => simpa using index_none q l hl j (by simpa using hj)

theorem getD_drop (L : List UInt8) (e j : Nat) : (L.drop e).getD j 0 = L.getD (e + j) 0 := by simp [List.getD_eq_getElem?_getD]

/-- A line holds no newline before its last byte; behind it a newline, unless the input ends. -/
theorem nxt_line (L : List UInt8) (e : Nat) : (nxt L e < L.length → L.getD (nxt L e - 1) 0 = 10) ∧ ∀ j, e ≤ j → j + 1 < nxt L e → L.getD j 0 ≠ 10 := by
  rcases index_cases L e with ⟨h1, h2⟩ | ⟨k, h1, h2, h3⟩
  · refine ⟨fun h => by omega, fun j hj hj2 => ?_⟩
    have := index_none 10 _ h1 (j - e) (by rw [List.length_drop]; omega)
    rw [getD_drop, show e + (j - e) = j by omega] at this
    exact this
  · obtain ⟨h4, h5⟩ := index_at 10 _ k h1
    rw [getD_drop] at h4
    refine ⟨fun _ => by rw [h2]; simpa using h4, fun j hj hj2 => ?_⟩
    have := h5 (j - e) (by omega)
    rw [getD_drop, show e + (j - e) = j by omega] at this
    exact this

theorem first_ge (o : Int) (L : List UInt8) : ∀ (f s e : Nat), s ≤ e → e ≤ L.length → ∀ q, (pw o L f s e).head? = some q → e ≤ q.2
  | 0, s, e, _, _, q, h => by simp [pw] at h
  | f + 1, s, e, h1, h2, q, h => by
    rw [pw] at h
    by_cases he : e < L.length
    · rw [if_pos he] at h
      have hx := nxt_gt L e he
      by_cases hc : crosses o s (nxt L e) = true
      · rw [if_pos hc] at h
        by_cases hse : s < e
        · rw [if_pos hse] at h
          simp at h
          rw [← h]
          exact Nat.le_refl _
        · rw [if_neg hse, List.nil_append] at h
          by_cases hc2 : crosses o e (nxt L e) = true
          · rw [if_pos hc2] at h
            simp at h
            rw [← h]; simp; omega
          · rw [if_neg hc2] at h
            have := first_ge o L f e (nxt L e) (by omega) hx.2 q h
            omega
      · rw [if_neg hc] at h
        have := first_ge o L f s (nxt L e) (by omega) hx.2 q h
        omega
    · rw [if_neg he] at h
      by_cases hs : s < L.length
      · rw [if_pos hs] at h
        simp at h
        rw [← h]; simp; omega
      · rw [if_neg hs] at h; simp at h

theorem pw_good (o : Int) (L : List UInt8) : ∀ (f s e : Nat), s ≤ e → e ≤ L.length → L.length - e < f → (s < e → page o s = page o (e - 1)) → (0 < e → e < L.length → L.getD (e - 1) 0 = 10) → Good o L (pw o L f s e)
  | 0, _, _, _, _, h, _, _ => by omega
  | f + 1, s, e, h1, h2, h3, h4, h5 => by
    rw [pw]
    by_cases he : e < L.length
    · rw [if_pos he]
      have hx := nxt_gt L e he
      obtain ⟨hn1, hn2⟩ := nxt_line L e
      generalize nxt L e = x at *
      by_cases hc : crosses o s x = true
      · rw [if_pos hc]
        have hc' := (crosses_iff (by omega)).1 hc
        have hrest : Good o L (if crosses o e x = true then (e, x) :: pw o L f x x else pw o L f e x) ∧ ∀ q, (if crosses o e x = true then (e, x) :: pw o L f x x else pw o L f e x).head? = some q → x ≤ q.2 := by
          by_cases hc2 : crosses o e x = true
          · rw [if_pos hc2]
            have hc2' := (crosses_iff (by omega)).1 hc2
            refine ⟨⟨hn1, fun ⟨j, hj1, hj2, hj3⟩ => absurd hj3 (hn2 j hj1 hj2), fun q hq => ?_, pw_good o L f x x (Nat.le_refl _) hx.2 (by omega) (fun h => absurd h (by omega)) (fun _ h => hn1 h)⟩, fun q hq => by simp at hq; rw [← hq]; exact Nat.le_refl _⟩
            have hq2 := first_ge o L f x x (Nat.le_refl _) hx.2 q hq
            have m1 : page o e ≤ page o (x - 1) := page_mono (by omega)
            have m2 : page o (x - 1) ≤ page o (q.2 - 1) := page_mono (by omega)
            show page o e ≠ page o (q.2 - 1)
            omega
          · rw [if_neg hc2]
            have hc2' : page o e = page o (x - 1) := by
              by_cases h : page o e = page o (x - 1)
              · exact h
              · exact absurd ((crosses_iff (by omega)).2 h) hc2
            exact ⟨pw_good o L f e x (by omega) hx.2 (by omega) (fun _ => hc2') (fun _ h => hn1 h), fun q hq => first_ge o L f e x (by omega) hx.2 q hq⟩
        by_cases hse : s < e
        · rw [if_pos hse, List.singleton_append]
          refine ⟨fun h => h5 (by show 0 < e; omega) h, fun _ => h4 hse, fun q hq => ?_, hrest.1⟩
          have hq2 := hrest.2 q hq
          have m1 : page o s ≤ page o (x - 1) := page_mono (by omega)
          have m2 : page o (x - 1) ≤ page o (q.2 - 1) := page_mono (by omega)
          show page o s ≠ page o (q.2 - 1)
          omega
        · rw [if_neg hse, List.nil_append]
          exact hrest.1
      · rw [if_neg hc]
        have hc' : page o s = page o (x - 1) := by
          by_cases h : page o s = page o (x - 1)
          · exact h
          · exact absurd ((crosses_iff (by omega)).2 h) hc
        exact pw_good o L f s x (by omega) hx.2 (by omega) (fun _ => hc') (fun _ h => hn1 h)
    · rw [if_neg he]
      obtain rfl : e = L.length := by omega
      by_cases hs : s < L.length
      · rw [if_pos hs]
        exact ⟨fun h => absurd h (Nat.lt_irrefl _), fun _ => h4 hs, fun q hq => by simp at hq, trivial⟩
      · rw [if_neg hs]; trivial

theorem cuts_good (o : Int) (L : List UInt8) : Good o L (cuts o L) := pw_good o L _ 0 0 (Nat.le_refl _) (Nat.zero_le _) (by omega) (fun h => absurd h (by omega)) (fun h => absurd h (by omega))

/-- .. of the i-th pair. -/
theorem good_at (o : Int) (L : List UInt8) : ∀ (l : List (Nat × Nat)) (i : Nat), Good o L l → ∀ x y, l[i]? = some (x, y) →
    (y < L.length → L.getD (y - 1) 0 = 10) ∧ ((∃ j, x ≤ j ∧ j + 1 < y ∧ L.getD j 0 = 10) → page o x = page o (y - 1)) ∧ (∀ u v, l[i + 1]? = some (u, v) → page o x ≠ page o (v - 1))
  | [], i, _, x, y, h => by simp at h
  | p :: l, 0, hg, x, y, h => by
    simp at h
    subst h
    obtain ⟨h1, h2, h3, _⟩ := hg
    exact ⟨h1, h2, fun u v huv => h3 (u, v) (by simpa [List.head?_eq_getElem?] using huv)⟩
  | p :: l, i + 1, hg, x, y, h => by
    obtain ⟨_, _, _, h4⟩ := hg
    have := good_at o L l i h4 x y (by simpa using h)
    exact ⟨this.1, this.2.1, fun u v huv => this.2.2 u v (by simpa using huv)⟩

/-- The pair behind the i-th begins where it ends, and there is one just where the input has not ended. -/
theorem tiles_next (n : Nat) : ∀ (l : List (Nat × Nat)) (s i : Nat), Tiles n s l → ∀ x y, l[i]? = some (x, y) → (y = n ∧ l.length = i + 1) ∨ (y < n ∧ i + 1 < l.length ∧ ∃ z, l[i + 1]? = some (y, z) ∧ y < z ∧ z ≤ n)
  | [], s, i, _, x, y, h => by simp at h
  | p :: l, s, 0, ht, x, y, h => by
    simp at h
    subst h
    obtain ⟨_, h2, h3, h4⟩ := ht
    cases l with
    | nil => simp only [Tiles] at h4; exact .inl ⟨h4, rfl⟩
    | cons q l =>
      obtain ⟨a, b, c, d⟩ := h4
      refine .inr ⟨?_, by simp, q.2, ?_, ?_, c⟩
      · have : y = q.1 := a.symm
        omega
      · simp; exact Prod.ext a rfl
      · have : y = q.1 := a.symm
        omega
  | p :: l, s, i + 1, ht, x, y, h => by
    obtain ⟨_, _, _, h4⟩ := ht
    rcases tiles_next n l p.2 i h4 x y (by simpa using h) with ⟨a, b⟩ | ⟨a, b, z, c, d⟩
    · exact .inl ⟨a, by simp; omega⟩
    · exact .inr ⟨a, by simp; omega, z, by simpa using c, d⟩

end Go.Proofs.Qxb6600400a.Plain
