/-
  SEAT b6600554a: WALKS 5: the model's small functions.
-/
import Derived.Test.Qxb6600554aWTwo
namespace Go.Proofs.Qxb6600554a
open Go.RowKit
set_option linter.unusedVariables false

theorem b_ne {c d : UInt8} (h : ¬ c = d) : ((c.toNat : Int) == (d.toNat : Int)) = false := by
  have h2 : ¬ (c.toNat : Int) = (d.toNat : Int) := by
    intro e
    exact h (UInt8.toNat_inj.1 (by omega))
  simpa using h2
theorem b_ne' {c : UInt8} (d : Nat) (hd : d < 256) (h : ¬ c = UInt8.ofNat d) : ((c.toNat : Int) == (d : Int)) = false := by
  have h2 : ¬ (c.toNat : Int) = (d : Int) := by
    intro e
    apply h
    apply UInt8.toNat_inj.1
    rw [UInt8.toNat_ofNat']
    omega
  simpa using h2

theorem dg45 (c : UInt8) (w : World) : Calls Try.prog 45 #[.int .u8 c.toNat] w fun e w' => e = .returned (.bool (isDg c)) ∧ w' = w := by
  by_cases g1 : (48 : Int) ≤ (c.toNat : Int)
  · by_cases g2 : (c.toNat : Int) ≤ 57
    · have hd1 : decide ((48 : Int) ≤ (c.toNat : Int)) = true := decide_eq_true g1
      have hd2 : decide ((c.toNat : Int) ≤ 57) = true := decide_eq_true g2
      rw [dg_yes g1 g2]
      go_enter Try.func45, Try.ntmps45
      go_wp2
      go_ret
      exact ⟨rfl, rfl⟩
    · have hd1 : decide ((48 : Int) ≤ (c.toNat : Int)) = true := decide_eq_true g1
      have hd2 : decide ((c.toNat : Int) ≤ 57) = false := decide_eq_false g2
      rw [dg_no2 (by omega)]
      go_enter Try.func45, Try.ntmps45
      go_wp2
      go_ret
      exact ⟨rfl, rfl⟩
  · have hd1 : decide ((48 : Int) ≤ (c.toNat : Int)) = false := decide_eq_false g1
    rw [dg_no1 (by omega)]
    go_enter Try.func45, Try.ntmps45
    go_wp2
    go_ret
    exact ⟨rfl, rfl⟩

theorem st46 (c : UInt8) (w : World) : Calls Try.prog 46 #[.int .u8 c.toNat] w fun e w' => e = .returned (.bool (isSt c)) ∧ w' = w := by
  by_cases h1 : c = 32
  · subst h1
    go_enter Try.func46, Try.ntmps46
    go_wp2
    go_ret
    exact ⟨rfl, rfl⟩
  have e1 : ((c.toNat : Int) == 32) = false := b_ne' 32 (by omega) h1
  by_cases h2 : c = 9
  · subst h2
    go_enter Try.func46, Try.ntmps46
    go_wp2
    go_ret
    exact ⟨rfl, rfl⟩
  have e2 : ((c.toNat : Int) == 9) = false := b_ne' 9 (by omega) h2
  by_cases h3 : c = 10
  · subst h3
    go_enter Try.func46, Try.ntmps46
    go_wp2
    go_ret
    exact ⟨rfl, rfl⟩
  have e3 : ((c.toNat : Int) == 10) = false := b_ne' 10 (by omega) h3
  have hf : isSt c = false := by unfold isSt; simp [h1, h2, h3]
  rw [hf]
  clear hf h1 h2 h3
  go_enter Try.func46, Try.ntmps46
  go_wp2
  go_ret
  exact ⟨rfl, rfl⟩

theorem sp47 (c : UInt8) (w : World) : Calls Try.prog 47 #[.int .u8 c.toNat] w fun e w' => e = .returned (.bool (isSp c)) ∧ w' = w := by
  by_cases h1 : c = 32
  · subst h1
    go_enter Try.func47, Try.ntmps47
    go_wp2
    go_ret
    exact ⟨rfl, rfl⟩
  have e1 : ((c.toNat : Int) == 32) = false := b_ne' 32 (by omega) h1
  by_cases h2 : c = 9
  · subst h2
    go_enter Try.func47, Try.ntmps47
    go_wp2
    go_ret
    exact ⟨rfl, rfl⟩
  have e2 : ((c.toNat : Int) == 9) = false := b_ne' 9 (by omega) h2
  by_cases h3 : c = 10
  · subst h3
    go_enter Try.func47, Try.ntmps47
    go_wp2
    go_ret
    exact ⟨rfl, rfl⟩
  have e3 : ((c.toNat : Int) == 10) = false := b_ne' 10 (by omega) h3
  by_cases h4 : c = 11
  · subst h4
    go_enter Try.func47, Try.ntmps47
    go_wp2
    go_ret
    exact ⟨rfl, rfl⟩
  have e4 : ((c.toNat : Int) == 11) = false := b_ne' 11 (by omega) h4
  by_cases h5 : c = 12
  · subst h5
    go_enter Try.func47, Try.ntmps47
    go_wp2
    go_ret
    exact ⟨rfl, rfl⟩
  have e5 : ((c.toNat : Int) == 12) = false := b_ne' 12 (by omega) h5
  by_cases h6 : c = 13
  · subst h6
    go_enter Try.func47, Try.ntmps47
    go_wp2
    go_ret
    exact ⟨rfl, rfl⟩
  have e6 : ((c.toNat : Int) == 13) = false := b_ne' 13 (by omega) h6
  have hf : isSp c = false := by unfold isSp; simp [h1, h2, h3, h4, h5, h6]
  rw [hf]
  clear hf h1 h2 h3 h4 h5 h6
  go_enter Try.func47, Try.ntmps47
  go_wp2
  go_ret
  exact ⟨rfl, rfl⟩

theorem rank35 (c : UInt8) (w : World) : Calls Try.prog 35 #[.int .u8 c.toNat] w fun e w' => e = .returned (.int .i64 (rank c)) ∧ w' = w := by
  by_cases h1 : c = 100
  · subst h1
    go_enter Try.func35, Try.ntmps35
    go_wp2
    go_ret
    exact ⟨rfl, rfl⟩
  have e1 : ((c.toNat : Int) == 100) = false := b_ne' 100 (by omega) h1
  by_cases h2 : c = 104
  · subst h2
    go_enter Try.func35, Try.ntmps35
    go_wp2
    go_ret
    exact ⟨rfl, rfl⟩
  have e2 : ((c.toNat : Int) == 104) = false := b_ne' 104 (by omega) h2
  by_cases h3 : c = 109
  · subst h3
    go_enter Try.func35, Try.ntmps35
    go_wp2
    go_ret
    exact ⟨rfl, rfl⟩
  have e3 : ((c.toNat : Int) == 109) = false := b_ne' 109 (by omega) h3
  by_cases h4 : c = 115
  · subst h4
    go_enter Try.func35, Try.ntmps35
    go_wp2
    go_ret
    exact ⟨rfl, rfl⟩
  have e4 : ((c.toNat : Int) == 115) = false := b_ne' 115 (by omega) h4
  have hf : rank c = -1 := by unfold rank; rw [if_neg h1, if_neg h2, if_neg h3, if_neg h4]
  rw [hf]
  clear hf h1 h2 h3 h4
  go_enter Try.func35, Try.ntmps35
  go_wp2
  go_ret
  exact ⟨rfl, rfl⟩

theorem scale36 (j : Nat) (hj : j < 3) (w : World) : Calls Try.prog 36 #[.int .i64 ((j + 1 : Nat) : Int)] w fun e w' => e = .returned (.int .i64 (scl j)) ∧ w' = w := by
  have h : j = 0 ∨ j = 1 ∨ j = 2 := by omega
  rcases h with rfl | rfl | rfl
  all_goals
    go_enter Try.func36, Try.ntmps36
    go_wp2
    go_ret
    exact ⟨rfl, rfl⟩

theorem len_at (s : ByteArray) (p : Nat) (hp : p ≤ s.size) : s.size - (s.data.toList.drop p).length = p := by
  rw [List.length_drop, size_toList]; omega

set_option maxHeartbeats 1000000 in
theorem skip33 (s : ByteArray) (i : Nat) (hi : i ≤ s.size) (hs : s.size ≤ 1048576) (w : World) : Calls Try.prog 33 #[.string s, .int .i64 i] w fun e w' => e = .returned (.int .i64 ((s.size - (skipB (s.data.toList.drop i)).length : Nat) : Int)) ∧ w' = w := by
  obtain ⟨r, hr⟩ : ∃ r, skipB (s.data.toList.drop i) = r := ⟨_, rfl⟩
  rw [hr]
  have HR := hideQ hr
  clear hr
  by_cases hlt : i < s.size
  · have hii : (i : Int) < (s.size : Int) := by omega
    have hd1 : decide ((i : Int) < (s.size : Int)) = true := decide_eq_true hii
    cases hst : isSt (s[i]'hlt) with
    | false =>
      have HF : Hid (r = s.data.toList.drop i) := by
        rw [← HR.out, drop_at s i hlt, skipB_cons, if_neg (by rw [hst]; simp)]
        exact rfl
      have HC := hideQ (st46 (s[i]'hlt) w)
      rw [hst] at HC
      go_enter Try.func33, Try.ntmps33
      go_wp2_with (go_at_call 46; refine HC.out.mono ?_; rintro e w' ⟨rfl, rfl⟩)
      go_ret
      refine ⟨?_, rfl⟩
      rw [HF.out, len_at s i hi]
      rfl
    | true =>
      have HF : Hid ((s.data.toList.drop (i + 1)).dropWhile isSp = r) := by
        rw [← HR.out, drop_at s i hlt, skipB_cons, if_pos hst]
        exact rfl
      have HC := hideQ (st46 (s[i]'hlt) w)
      rw [hst] at HC
      clear HR
      go_enter Try.func33, Try.ntmps33
      go_wp2_with (go_at_call 46; refine HC.out.mono ?_; rintro e w' ⟨rfl, rfl⟩)
      go_loopw [1] (fun v wr => ∃ p : Nat, v = .int .i64 p ∧ p ≤ s.size ∧ (s.data.toList.drop p).dropWhile isSp = r ∧ wr = w') (fun v _ => s.size - (intOf v).toNat)
      case atStart => exact ⟨i + 1, rfl, hlt, HF.out, rfl⟩
      case round =>
        obtain ⟨p, rfl, hp, h1, hwr⟩ := hrel
        subst hwr
        have H1 := hideQ h1
        clear h1 HC
        by_cases hlp : p < s.size
        · have hpp : (p : Int) < (s.size : Int) := by omega
          have hd1 : decide ((p : Int) < (s.size : Int)) = true := decide_eq_true hpp
          have HC := hideQ (sp47 (s[p]'hlp) wr)
          cases hsp : isSp (s[p]'hlp) with
          | true =>
            rw [hsp] at HC
            go_wp2_with (go_at_call 47; refine HC.out.mono ?_; rintro e w' ⟨rfl, rfl⟩)
            go_roundw
            case rel =>
              refine ⟨p + 1, rfl, hlp, ?_, trivial⟩
              rw [← H1.out, drop_at s p hlp, List.dropWhile_cons, if_pos hsp]
            case measure => simp [intOf]; omega
          | false =>
            rw [hsp] at HC
            go_wp2_with (go_at_call 47; refine HC.out.mono ?_; rintro e w' ⟨rfl, rfl⟩)
            go_ret
            have hr : r = s.data.toList.drop p := by rw [← H1.out, drop_at s p hlp, List.dropWhile_cons, if_neg (by rw [hsp]; simp)]
            refine ⟨?_, rfl⟩
            rw [hr, len_at s p hp]
            rfl
        · have hpe : ¬ (p : Int) < (s.size : Int) := by omega
          have hd1 : decide ((p : Int) < (s.size : Int)) = false := decide_eq_false hpe
          go_wp2
          go_ret
          have hr : r = s.data.toList.drop p := by rw [← H1.out, List.drop_of_length_le (by rw [size_toList]; omega)]; rfl
          refine ⟨?_, rfl⟩
          rw [hr, len_at s p hp]
          rfl
  · have hie : i = s.size := by omega
    subst hie
    have HF : Hid (r = []) := by
      rw [← HR.out, List.drop_of_length_le (by rw [size_toList]; omega)]
      exact rfl
    go_enter Try.func33, Try.ntmps33
    go_wp2
    go_ret
    refine ⟨?_, rfl⟩
    rw [HF.out]
    rfl

theorem blank39 (s : ByteArray) (hs : s.size ≤ 1048576) (w : World) : Calls Try.prog 39 #[.string s] w fun e w' => e = .returned (.bool (decide (s.data.toList ≠ []) && decide (skipB s.data.toList = []))) ∧ w' = w := by
  have hl := skipB_len s.data.toList
  rw [size_toList] at hl
  have H := hideQ (skip33 s 0 (by omega) hs w)
  rw [List.drop_zero] at H
  by_cases h0 : 0 < s.size
  · have h0' : (0 : Int) < (s.size : Int) := by omega
    have hne : s.data.toList ≠ [] := by intro e; have := size_toList s; rw [e] at this; simp at this; omega
    by_cases hk : skipB s.data.toList = []
    · rw [decide_eq_true hne, decide_eq_true hk]
      rw [hk] at H
      clear hk hne hl
      go_enter Try.func39, Try.ntmps39
      go_wp2_with (go_at_call 33; refine H.out.mono ?_; rintro e w' ⟨rfl, rfl⟩)
      go_ret
      refine ⟨?_, rfl⟩
      simp
    · rw [decide_eq_true hne, decide_eq_false hk]
      have hkl : (skipB s.data.toList).length ≠ 0 := fun e => hk (List.eq_nil_of_length_eq_zero e)
      obtain ⟨m, hm⟩ : ∃ m, s.size - (skipB s.data.toList).length = m := ⟨_, rfl⟩
      rw [hm] at H
      have hmm : ((m : Int) == (s.size : Int)) = false := by simp; omega
      clear hk hne hl hkl hm
      go_enter Try.func39, Try.ntmps39
      go_wp2_with (go_at_call 33; refine H.out.mono ?_; rintro e w' ⟨rfl, rfl⟩)
      go_ret
      exact ⟨rfl, rfl⟩
  · have h0' : ¬ (0 : Int) < (s.size : Int) := by omega
    have hne : ¬ s.data.toList ≠ [] := by
      intro e
      apply e
      apply List.eq_nil_of_length_eq_zero
      rw [size_toList]; omega
    rw [decide_eq_false hne]
    clear hne H hl
    go_enter Try.func39, Try.ntmps39
    go_wp2
    go_ret
    exact ⟨rfl, rfl⟩

end Go.Proofs.Qxb6600554a
