/-
  SEAT b6600554a: strings.ContainsRune (52) at the two strings of blanks.
-/
import Derived.Test.Qxb6600554aWOne
import Derived.Test.Qxb6600554aPlain
namespace Go.Proofs.Qxb6600554a
open Go.RowKit
set_option linter.unusedVariables false

/-- ContainsRune, of what IndexRune answers. -/
theorem cr_of (s : ByteArray) (c : Nat) (r : Int) (w : World) (h : Calls Try.prog 54 #[.string s, .int .i32 c] w fun e w' => e = .returned (.int .i64 r) ∧ ∃ n, w' = w.drewN n) :
    Calls Try.prog 52 #[.string s, .int .i32 c] w fun e w' => e = .returned (.bool (decide (0 ≤ r))) ∧ ∃ n, w' = w.drewN n := by
  have H := hideR h
  clear h
  go_enter Try.func52, Try.ntmps52
  go_wp2_with (go_at_call 54; refine H.out.mono ?_; rintro e w' ⟨rfl, n, rfl⟩)
  go_ret
  exact ⟨rfl, n, rfl⟩

theorem idx_st (c : UInt8) : decide (0 ≤ Lib.indexByte [32, 9, 10] c) = isSt c := by
  by_cases h1 : c = 32
  · subst h1; rfl
  by_cases h2 : c = 9
  · subst h2; rfl
  by_cases h3 : c = 10
  · subst h3; rfl
  have hf : isSt c = false := by unfold isSt; simp [h1, h2, h3]
  rw [hf, idx_none _ _ (by
    intro x hx e
    subst e
    simp at hx
    rcases hx with h | h | h <;> contradiction)]
  rfl

theorem idx_sp (c : UInt8) : decide (0 ≤ Lib.indexByte [32, 9, 10, 11, 12, 13] c) = isSp c := by
  by_cases h1 : c = 32
  · subst h1; rfl
  by_cases h2 : c = 9
  · subst h2; rfl
  by_cases h3 : c = 10
  · subst h3; rfl
  by_cases h4 : c = 11
  · subst h4; rfl
  by_cases h5 : c = 12
  · subst h5; rfl
  by_cases h6 : c = 13
  · subst h6; rfl
  have hf : isSp c = false := by unfold isSp; simp [h1, h2, h3, h4, h5, h6]
  rw [hf, idx_none _ _ (by
    intro x hx e
    subst e
    simp at hx
    rcases hx with h | h | h | h | h | h <;> contradiction)]
  rfl

theorem high_st (c : UInt8) (h : 128 ≤ c.toNat) : isSt c = false := by
  have hne : ∀ d : UInt8, d.toNat < 128 → ¬ c = d := by
    intro d hd e
    subst e
    omega
  have h1 := hne 32 (by decide)
  have h2 := hne 9 (by decide)
  have h3 := hne 10 (by decide)
  unfold isSt
  simp [h1, h2, h3]
theorem high_sp (c : UInt8) (h : 128 ≤ c.toNat) : isSp c = false := by
  have hne : ∀ d : UInt8, d.toNat < 128 → ¬ c = d := by
    intro d hd e
    subst e
    omega
  have h1 := hne 32 (by decide)
  have h2 := hne 9 (by decide)
  have h3 := hne 10 (by decide)
  have h4 := hne 11 (by decide)
  have h5 := hne 12 (by decide)
  have h6 := hne 13 (by decide)
  unfold isSp
  simp [h1, h2, h3, h4, h5, h6]

theorem cr_st (c : UInt8) (w : World) : Calls Try.prog 52 #[.string ⟨#[32, 9, 10]⟩, .int .i32 c.toNat] w fun e w' => e = .returned (.bool (isSt c)) ∧ ∃ n, w' = w.drewN n := by
  have hc := c.toNat_lt
  by_cases hl : c.toNat < 128
  · have := cr_of ⟨#[32, 9, 10]⟩ c.toNat (Lib.indexByte [32, 9, 10] c) w ((rune_low _ c.toNat hl w).mono (by
      rintro e w' ⟨rfl, rfl⟩
      refine ⟨?_, 0, rfl⟩
      rw [show c.toNat.toUInt8 = c by simp]))
    rw [idx_st] at this
    exact this
  · have := cr_of ⟨#[32, 9, 10]⟩ c.toNat (-1) w (rune_high ⟨#[32, 9, 10]⟩ (by decide) (by decide) (by decide) c.toNat (by omega) (by omega) w)
    rw [show decide ((0 : Int) ≤ -1) = false from rfl] at this
    rw [high_st c (by omega)]
    exact this

theorem cr_sp (c : UInt8) (w : World) : Calls Try.prog 52 #[.string ⟨#[32, 9, 10, 11, 12, 13]⟩, .int .i32 c.toNat] w fun e w' => e = .returned (.bool (isSp c)) ∧ ∃ n, w' = w.drewN n := by
  have hc := c.toNat_lt
  by_cases hl : c.toNat < 128
  · have := cr_of ⟨#[32, 9, 10, 11, 12, 13]⟩ c.toNat (Lib.indexByte [32, 9, 10, 11, 12, 13] c) w ((rune_low _ c.toNat hl w).mono (by
      rintro e w' ⟨rfl, rfl⟩
      refine ⟨?_, 0, rfl⟩
      rw [show c.toNat.toUInt8 = c by simp]))
    rw [idx_sp] at this
    exact this
  · have := cr_of ⟨#[32, 9, 10, 11, 12, 13]⟩ c.toNat (-1) w (rune_high ⟨#[32, 9, 10, 11, 12, 13]⟩ (by decide) (by decide) (by decide) c.toNat (by omega) (by omega) w)
    rw [show decide ((0 : Int) ≤ -1) = false from rfl] at this
    rw [high_sp c (by omega)]
    exact this

end Go.Proofs.Qxb6600554a
