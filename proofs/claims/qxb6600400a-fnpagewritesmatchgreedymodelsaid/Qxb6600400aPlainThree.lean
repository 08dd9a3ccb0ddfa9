/-
  THE PLAIN LAWS OF SEAT b6600400a, THREE: the greedy model's cuts are the ends of the pairs.
-/
import Derived.Test.Qxb6600400aPlainTwo
namespace Go.Proofs.Qxb6600400a.Plain
open Go

/-- The ends of the lines of what is left, at place p; 'pend': a line is begun. -/
def ends : List UInt8 → Nat → Bool → List Nat
  | [], p, true => [p]
  | [], _, false => []
  | b :: l, p, _ => if b == 10 then (p + 1) :: ends l (p + 1) false else ends l (p + 1) true

theorem ends_mem : ∀ (l : List UInt8) (p : Nat) (b : Bool), (b = true → 1 ≤ p) → ∀ e ∈ ends l p b, 1 ≤ e ∧ e ≤ p + l.length
  | [], p, true, h, e, he => by simp [ends] at he; subst he; exact ⟨h rfl, by simp⟩
  | [], p, false, _, e, he => by simp [ends] at he
  | c :: l, p, b, _, e, he => by
    unfold ends at he
    by_cases hc : (c == 10) = true
    · rw [if_pos hc] at he
      rcases List.mem_cons.1 he with rfl | he
      · exact ⟨by omega, by simp⟩
      · have := ends_mem l (p + 1) false (fun h => by cases h) e he
        exact ⟨this.1, by simp; omega⟩
    · rw [if_neg hc] at he
      have := ends_mem l (p + 1) true (fun _ => by omega) e he
      exact ⟨this.1, by simp; omega⟩

theorem ends_len : ∀ (l : List UInt8) (p : Nat) (b : Bool), (ends l p b).length ≤ l.length + (if b = true then 1 else 0)
  | [], p, true => by simp [ends]
  | [], p, false => by simp [ends]
  | c :: l, p, b => by
    unfold ends
    by_cases hc : (c == 10) = true
    · rw [if_pos hc]
      have := ends_len l (p + 1) false
      simp at this ⊢
      omega
    · rw [if_neg hc]
      have := ends_len l (p + 1) true
      simp at this ⊢
      omega

/-- One line. -/
theorem ends_index : ∀ (l : List UInt8) (p : Nat) (b : Bool), (∀ k : Nat, Lib.indexByte l 10 = (k : Int) → ends l p b = (p + k + 1) :: ends (l.drop (k + 1)) (p + k + 1) false) ∧
    (Lib.indexByte l 10 = -1 → l ≠ [] → ends l p b = [p + l.length])
  | [], p, b => ⟨fun k h => by unfold Lib.indexByte at h; omega, fun _ h => absurd rfl h⟩
  | c :: l, p, b => by
    have ih := fun b => ends_index l (p + 1) b
    have hge := Lib.indexByte_ge l 10
    by_cases hc : (c == 10) = true
    · refine ⟨fun k h => ?_, fun h => ?_⟩
      · unfold Lib.indexByte at h
        rw [if_pos hc] at h
        obtain rfl : k = 0 := by omega
        rw [ends, if_pos hc]
        rfl
      · unfold Lib.indexByte at h
        rw [if_pos hc] at h
        cases h
    · refine ⟨fun k h => ?_, fun h _ => ?_⟩
      · unfold Lib.indexByte at h
        rw [if_neg hc] at h
        by_cases h2 : (Lib.indexByte l 10 == -1) = true
        · rw [if_pos h2] at h; omega
        · rw [if_neg h2] at h
          have h3 : Lib.indexByte l 10 ≠ -1 := by simpa using h2
          obtain ⟨m, rfl⟩ : ∃ m, k = m + 1 := ⟨k - 1, by omega⟩
          have h4 := (ih true).1 m (by omega)
          rw [ends, if_neg hc, h4, List.drop_succ_cons, show p + 1 + m + 1 = p + (m + 1) + 1 by omega]
      · unfold Lib.indexByte at h
        rw [if_neg hc] at h
        have hl : Lib.indexByte l 10 = -1 := by
          by_cases h2 : (Lib.indexByte l 10 == -1) = true
          · simpa using h2
          · rw [if_neg h2] at h; omega
        rw [ends, if_neg hc]
        cases l with
        | nil => rfl
        | cons d l =>
          rw [(ih true).2 hl (by simp)]
          simp
          omega

theorem ends_nxt (L : List UInt8) (e : Nat) (he : e < L.length) (b : Bool) : ends (L.drop e) e b = nxt L e :: ends (L.drop (nxt L e)) (nxt L e) false := by
  rcases index_cases L e with ⟨h1, h2⟩ | ⟨k, h1, h2, h3⟩
  · rw [(ends_index _ e b).2 h1 (by intro h; have := congrArg List.length h; simp at this; omega), h2, List.drop_length]
    simp [ends]
    omega
  · rw [(ends_index _ e b).1 k h1, h2, List.drop_drop]
    rfl

/-- The model's cuts that are still to come: over the ends left, a line beginning at st, a group open on page op or none. -/
def mc (o : Int) (n : Nat) : List Nat → Nat → Option Int → List Nat
  | [], _, some _ => [n]
  | [], _, none => []
  | e :: E, st, some g =>
    if page o st ≠ page o (e - 1) then st :: e :: mc o n E e none
    else if page o st ≠ g then st :: mc o n E e (some (page o st)) else mc o n E e (some g)
  | e :: E, st, none =>
    if page o st ≠ page o (e - 1) then e :: mc o n E e none else mc o n E e (some (page o st))

theorem crosses_of_ne {o : Int} {s x : Nat} (h : 0 < x) (hp : page o s ≠ page o (x - 1)) : crosses o s x = true := (crosses_iff h).2 hp
theorem crosses_of_eq {o : Int} {s x : Nat} (h : 0 < x) (hp : page o s = page o (x - 1)) : crosses o s x = false := by
  cases hc : crosses o s x with
  | false => rfl
  | true => exact absurd hp ((crosses_iff h).1 hc)

theorem mc_pw (o : Int) (L : List UInt8) : ∀ (f s e : Nat), s ≤ e → e ≤ L.length → L.length - e < f →
    (s = e → mc o L.length (ends (L.drop e) e false) e none = (pw o L f s e).map (·.2)) ∧
    (s < e → page o s = page o (e - 1) → mc o L.length (ends (L.drop e) e false) e (some (page o s)) = (pw o L f s e).map (·.2))
  | 0, _, _, _, _, h => by omega
  | f + 1, s, e, h1, h2, h3 => by
    by_cases he : e < L.length
    · have hx := nxt_gt L e he
      rw [ends_nxt L e he false]
      have ihA := (mc_pw o L f (nxt L e) (nxt L e) (Nat.le_refl _) hx.2 (by omega)).1 rfl
      have ihB := (mc_pw o L f e (nxt L e) (by omega) hx.2 (by omega)).2 (by omega)
      have ihC := (mc_pw o L f s (nxt L e) (by omega) hx.2 (by omega)).2 (by omega)
      have hm1 : page o e ≤ page o (nxt L e - 1) := page_mono (by omega)
      rw [pw, if_pos he]
      generalize nxt L e = x at *
      refine ⟨fun hse => ?_, fun hse hpg => ?_⟩
      · subst hse
        rw [mc]
        by_cases hp : page o s = page o (x - 1)
        · rw [if_neg (by simpa using hp), crosses_of_eq (by omega) hp]
          simp only [Bool.false_eq_true, if_false]
          exact ihC hp
        · rw [if_pos (by simpa using hp), crosses_of_ne (by omega) hp]
          simp only [if_true, Nat.lt_irrefl, if_false, List.nil_append, List.map_cons]
          rw [ihA]
      · have hm2 : page o (e - 1) ≤ page o e := page_mono (by omega)
        rw [mc]
        by_cases hp : page o e = page o (x - 1)
        · rw [if_neg (by simpa using hp)]
          by_cases hq : page o e = page o s
          · rw [if_neg (by simpa using hq), crosses_of_eq (by omega) (show page o s = page o (x - 1) by omega)]
            simp only [Bool.false_eq_true, if_false]
            exact ihC (by omega)
          · rw [if_pos (by simpa using hq), crosses_of_ne (s := s) (by omega) (show page o s ≠ page o (x - 1) by omega), crosses_of_eq (s := e) (by omega) hp]
            simp only [if_true, if_pos hse, Bool.false_eq_true, if_false, List.map_append, List.map_cons, List.map_nil]
            rw [← ihB hp]
            rfl
        · rw [if_pos (by simpa using hp), crosses_of_ne (s := s) (by omega) (show page o s ≠ page o (x - 1) by omega), crosses_of_ne (s := e) (by omega) hp]
          simp only [if_true, if_pos hse, List.map_append, List.map_cons, List.map_nil]
          rw [← ihA]
          rfl
    · obtain rfl : e = L.length := by omega
      rw [List.drop_length, pw, if_neg he]
      refine ⟨fun hse => ?_, fun hse _ => ?_⟩
      · subst hse
        simp [ends, mc]
      · rw [if_pos hse]
        simp [ends, mc]

/-- The model's cuts are the ends of the writes. -/
theorem model_cuts (o : Int) (L : List UInt8) : mc o L.length (ends L 0 false) 0 none = (cuts o L).map (·.2) := by
  have := (mc_pw o L (L.length + 1) 0 0 (Nat.le_refl _) (Nat.zero_le _) (by omega)).1 rfl
  rw [List.drop_zero] at this
  exact this

end Go.Proofs.Qxb6600400a.Plain
