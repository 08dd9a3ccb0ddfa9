/-
  THE PLAIN LAWS OF SEAT b6600062a: no Go in sight: what 'quotedSize' computes, as a function on the list of bytes behind the opening quote.
-/
import Derived.Lib.Bytealg
namespace Go.Proofs.Qxb6600062a.Plain
open Go

/-- What 'quotedSize' answers, having counted n bytes, 'c': the last byte counted was a quote that closes unless another follows. -/
def scan (q : UInt8) : List UInt8 → Bool → Nat → Int
  | [], true, n => n
  | [], false, _ => -1
  | b :: l, true, n => if b == q then scan q l false (n + 1) else n
  | b :: l, false, n => scan q l (b == q) (n + 1)

theorem scan_none (q : UInt8) : ∀ (l r : List UInt8) (n : Nat), Lib.indexByte l q = -1 → scan q (l ++ r) false n = scan q r false (n + l.length)
  | [], r, n, _ => rfl
  | b :: l, r, n, h => by
    unfold Lib.indexByte at h
    by_cases hb : (b == q) = true
    · rw [if_pos hb] at h; cases h
    · rw [if_neg hb] at h
      have hge := Lib.indexByte_ge l q
      have hl : Lib.indexByte l q = -1 := by
        by_cases h2 : (Lib.indexByte l q == -1) = true
        · simpa using h2
        · rw [if_neg h2] at h; omega
      have hb' : (b == q) = false := by simpa using hb
      rw [List.cons_append, scan, hb', scan_none q l r (n + 1) hl, List.length_cons]
      congr 1; omega

theorem scan_some (q : UInt8) : ∀ (l r : List UInt8) (n k : Nat), Lib.indexByte l q = (k : Int) → k < l.length ∧ scan q (l ++ r) false n = scan q (l.drop (k + 1) ++ r) true (n + k + 1)
  | [], r, n, k, h => by unfold Lib.indexByte at h; omega
  | b :: l, r, n, k, h => by
    unfold Lib.indexByte at h
    by_cases hb : (b == q) = true
    · rw [if_pos hb] at h
      have hk : k = 0 := by omega
      subst hk
      refine ⟨by simp, ?_⟩
      rw [List.cons_append, scan, hb]
      rfl
    · rw [if_neg hb] at h
      have hb' : (b == q) = false := by simpa using hb
      by_cases h2 : (Lib.indexByte l q == -1) = true
      · rw [if_pos h2] at h; omega
      · rw [if_neg h2] at h
        have hge := Lib.indexByte_ge l q
        have h2' : Lib.indexByte l q ≠ -1 := by simpa using h2
        obtain ⟨m, rfl⟩ : ∃ m, k = m + 1 := ⟨k - 1, by omega⟩
        obtain ⟨h3, h4⟩ := scan_some q l r (n + 1) m (by omega)
        refine ⟨by simp; omega, ?_⟩
        rw [List.cons_append, scan, hb', h4, List.drop_succ_cons]
        congr 1; omega

/-- The heart of both laws. -/
theorem scan_prefix (q : UInt8) : ∀ (l : List UInt8) (c : Bool) (n : Nat), scan q l c n = -1 ∨
    ∃ k, k ≤ l.length ∧ scan q l c n = ((n + k : Nat) : Int) ∧ scan q (l.take k) c n = ((n + k : Nat) : Int) ∧
      ((c = true ∧ k = 0) ∨ (1 ≤ k ∧ l[k - 1]? = some q ∧ scan q (l.take (k - 1)) c n = -1))
  | [], true, n => .inr ⟨0, by simp, by simp [scan], by simp [scan], .inl ⟨rfl, rfl⟩⟩
  | [], false, n => .inl rfl
  | b :: l, true, n => by
    by_cases hb : (b == q) = true
    · have e : ∀ m, scan q (b :: m) true n = scan q m false (n + 1) := fun m => by rw [scan, if_pos hb]
      rcases scan_prefix q l false (n + 1) with h | ⟨k, h1, h2, h3, h4⟩
      · exact .inl (by rw [e]; exact h)
      · rcases h4 with ⟨h4, _⟩ | ⟨h4, h5, h6⟩
        · cases h4
        · obtain ⟨m, rfl⟩ : ∃ m, k = m + 1 := ⟨k - 1, by omega⟩
          refine .inr ⟨m + 1 + 1, by simp; omega, ?_, ?_, .inr ⟨by omega, ?_, ?_⟩⟩
          · rw [e, h2]; omega
          · rw [List.take_succ_cons, e, h3]; omega
          · simpa using h5
          · simp only [Nat.add_sub_cancel] at h6 ⊢
            rw [List.take_succ_cons, e, h6]
    · exact .inr ⟨0, by simp, by rw [scan, if_neg hb]; simp, by simp [scan], .inl ⟨rfl, rfl⟩⟩
  | b :: l, false, n => by
    have e : ∀ m, scan q (b :: m) false n = scan q m (b == q) (n + 1) := fun m => by rw [scan]
    rcases scan_prefix q l (b == q) (n + 1) with h | ⟨k, h1, h2, h3, h4⟩
    · exact .inl (by rw [e]; exact h)
    · rcases h4 with ⟨h4, rfl⟩ | ⟨h4, h5, h6⟩
      · refine .inr ⟨1, by simp, ?_, ?_, .inr ⟨by omega, ?_, ?_⟩⟩
        · rw [e, h2]
        · rw [List.take_succ_cons, e, h3]
        · simpa using h4
        · simp [scan]
      · obtain ⟨m, rfl⟩ : ∃ m, k = m + 1 := ⟨k - 1, by omega⟩
        refine .inr ⟨m + 1 + 1, by simp; omega, ?_, ?_, .inr ⟨by omega, ?_, ?_⟩⟩
        · rw [e, h2]; omega
        · rw [List.take_succ_cons, e, h3]; omega
        · simpa using h5
        · simp only [Nat.add_sub_cancel] at h6 ⊢
          rw [List.take_succ_cons, e, h6]

/-- The law of the shortest closed prefix, over t = q :: l. -/
theorem shortest (q : UInt8) (l : List UInt8) : scan q l false 1 = -1 ∨
    ∃ k, 1 ≤ k ∧ k ≤ l.length ∧ scan q l false 1 = ((k + 1 : Nat) : Int) ∧ l[k - 1]? = some q ∧ scan q (l.take k) false 1 = ((k + 1 : Nat) : Int) ∧ scan q (l.take (k - 1)) false 1 = -1 := by
  rcases scan_prefix q l false 1 with h | ⟨k, h1, h2, h3, h4⟩
  · exact .inl h
  · rcases h4 with ⟨h4, _⟩ | ⟨h4, h5, h6⟩
    · cases h4
    · exact .inr ⟨k, h4, h1, by rw [h2, Nat.add_comm], h5, by rw [h3, Nat.add_comm], h6⟩

end Go.Proofs.Qxb6600062a.Plain
