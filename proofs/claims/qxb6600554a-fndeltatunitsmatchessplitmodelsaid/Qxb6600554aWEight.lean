/-
  SEAT b6600554a: WALKS 8: the law of the units (5) and its small parts (10, 15, 16, 17).
-/
import Derived.Test.Qxb6600554aWFour
import Derived.Test.Qxb6600554aWSeven
namespace Go.Proofs.Qxb6600554a
open Go.RowKit
set_option linter.unusedVariables false

theorem str_ne {t : ByteArray} {l : List UInt8} (h : ¬ t = ⟨l.toArray⟩) : (t.toList == l) = false := by
  have : ¬ t.toList = l := by
    intro e
    apply h
    rw [ByteArray.toList_eq] at e
    cases t
    simp at e
    rw [← e]
  simpa using this

/-- Any truth value, and the world as it was. -/
def AnyB (w : World) (e : Ending) (w' : World) : Prop := ∃ b : Bool, e = .returned (.bool b) ∧ w' = w

theorem nul10 (s : ByteArray) (hs : s.size ≤ 1048576) (w : World) : Calls Try.prog 10 #[.string s] w (AnyB w) := by
  go_enter Try.func10, Try.ntmps10
  go_wp2
  go_loopw [3] (fun v wr => ∃ p : Nat, v = .int .i64 p ∧ p ≤ s.size ∧ wr = w) (fun v _ => s.size - (intOf v).toNat)
  case atStart => exact ⟨0, rfl, by omega, rfl⟩
  case round =>
    obtain ⟨p, rfl, hp, hwr⟩ := hrel
    have hwr := hwr.symm
    subst hwr
    by_cases hlp : p < s.size
    · have hpp : (p : Int) < (s.size : Int) := by omega
      cases hz : (((s[p]'hlp).toNat : Int) == 0) with
      | true =>
        go_wp2
        go_ret
        exact ⟨_, rfl, rfl⟩
      | false =>
        go_wp2
        go_roundw
        case rel => exact ⟨p + 1, rfl, hlp, trivial⟩
        case measure => simp [intOf]; omega
    · have hpe : ¬ (p : Int) < (s.size : Int) := by omega
      go_wp2
      go_ret
      exact ⟨_, rfl, rfl⟩

theorem bytes15 (s t : ByteArray) (v1 v2 : Value) (hs : s.size ≤ maxLen) (ht : t.size ≤ maxLen) (w : World) : Calls Try.prog 15 #[.string s, v1, v2, .string t] w fun e w' => e = .returned (.bool (decide (s.size + t.size ≤ 1048576))) ∧ w' = w := by
  unfold maxLen at hs ht
  by_cases h1 : 1048576 < (s.size : Int)
  · rw [decide_eq_false (by omega)]
    go_enter Try.func15, Try.ntmps15
    go_wp2
    go_ret
    exact ⟨rfl, rfl⟩
  by_cases h2 : 1048576 < (t.size : Int)
  · rw [decide_eq_false (by omega)]
    go_enter Try.func15, Try.ntmps15
    go_wp2
    go_ret
    exact ⟨rfl, rfl⟩
  by_cases h3 : 1048576 < (s.size : Int) + (t.size : Int)
  · rw [decide_eq_false (by omega)]
    go_enter Try.func15, Try.ntmps15
    go_wp2
    go_ret
    exact ⟨rfl, rfl⟩
  · rw [decide_eq_true (by omega)]
    go_enter Try.func15, Try.ntmps15
    go_wp2
    go_ret
    exact ⟨rfl, rfl⟩

def AlP (t : ByteArray) (w : World) (e : Ending) (w' : World) : Prop := ((∃ k, k ≤ 3 ∧ t = US k ∧ e = .returned (.tuple #[.int .i64 ((k + 1 : Nat) : Int), .bool true])) ∨ e = .returned (.tuple #[.int .i64 0, .bool false])) ∧ w' = w
theorem allowed16 (t : ByteArray) (w : World) : Calls Try.prog 16 #[.string t] w (AlP t w) := by
  by_cases h0 : t = ⟨#[104, 109, 115]⟩
  · subst h0
    go_enter Try.func16, Try.ntmps16
    go_wp2
    go_ret2
    exact ⟨.inl ⟨0, by omega, rfl, rfl⟩, rfl⟩
  by_cases h1 : t = ⟨#[109, 115]⟩
  · subst h1
    go_enter Try.func16, Try.ntmps16
    go_wp2
    go_ret2
    exact ⟨.inl ⟨1, by omega, rfl, rfl⟩, rfl⟩
  by_cases h2 : t = ⟨#[115]⟩
  · subst h2
    go_enter Try.func16, Try.ntmps16
    go_wp2
    go_ret2
    exact ⟨.inl ⟨2, by omega, rfl, rfl⟩, rfl⟩
  by_cases h3 : t = ⟨#[]⟩
  · subst h3
    go_enter Try.func16, Try.ntmps16
    go_wp2
    go_ret2
    exact ⟨.inl ⟨3, by omega, rfl, rfl⟩, rfl⟩
  have g0 : (t.toList == [104, 109, 115]) = false := str_ne h0
  have g1 : (t.toList == [109, 115]) = false := str_ne h1
  have g2 : (t.toList == [115]) = false := str_ne h2
  have g3 : t.toList.isEmpty = false := by
    have := str_ne (l := []) h3
    cases ht : t.toList with
    | nil => rw [ht] at this; simp at this
    | cons a l => rfl
  have g4 : (t.toList == []) = false := str_ne (l := []) h3
  have g5 : ¬ t.toList = [] := by simpa using g4
  clear h0 h1 h2 h3
  go_enter Try.func16, Try.ntmps16
  go_wp2
  go_ret2
  exact ⟨.inr rfl, rfl⟩

theorem zz17 (s : ByteArray) (i : Nat) (hi0 : 1 ≤ i) (hi : i ≤ s.size) (hs : s.size ≤ 1048576) (total : Int) (k : Nat) (hk : k ≤ 3) (w : World) :
    Calls Try.prog 17 #[.string s, .int .i64 i, .int .i64 total, .string (US k)] w (UnP w.heap.size (U wrap64 (s.size + 1) k (s[i - 1]'(by omega)) total (s.data.toList.drop i)) w) := by
  have hD : DAt (w.alloc (.cells #[.string s, .int .i64 i] 48)) w.heap.size s i := heap_alloc_new w _
  have HC := hideQ (units_any w.heap.size s i hi0 hi k hk total _ hs hD)
  have HB : Hid (Below w.heap.size w (w.alloc (.cells #[.string s, .int .i64 i] 48))) := (Below.refl _ _).alloc (Nat.le_refl _) _
  clear hD
  obtain ⟨R, hR⟩ : ∃ R, U wrap64 (s.size + 1) k (s[i - 1]'(by omega)) total (s.data.toList.drop i) = R := ⟨_, rfl⟩
  rw [hR] at HC ⊢
  clear hR
  go_enter Try.func17, Try.ntmps17
  go_wp2_with fail
  refine HC.out.mono ?_
  rintro e w2 ⟨rfl, hB2⟩
  have HB2 := hideQ (HB.out.trans hB2)
  clear HC HB hB2
  go_wp2
  go_ret2
  exact ⟨rfl, HB2.out⟩

set_option maxRecDepth 100000 in
set_option maxHeartbeats 2000000 in
theorem law5 (s : ByteArray) (a1 a2 : Int) (t : ByteArray) (w0 : s.size ≤ maxLen) (w3 : t.size ≤ maxLen) (w : World) :
    Calls Try.prog 5 #[.string s, .int .i64 a1, .int .i64 a2, .string t] w fun e w' => e = .returned (.bool true) ∧ Below w.heap.size w w' := by
  have H15 := hideQ (bytes15 s t (.int .i64 a1) (.int .i64 a2) w0 w3 w)
  by_cases hz : s.size + t.size ≤ 1048576
  · rw [decide_eq_true hz] at H15
    have z1 : ¬ 1048576 < (s.size : Int) := by omega
    have z2 : ¬ 1048576 < (t.size : Int) := by omega
    have z3 : ¬ 1048576 < (s.size : Int) + (t.size : Int) := by omega
    by_cases ha : a1 < 1
    · go_enter Try.func5, Try.ntmps5
      go_wp2_with (go_at_call 15; refine H15.out.mono ?_; rintro e w' ⟨rfl, rfl⟩)
      go_ret
      exact ⟨rfl, Below.refl _ _⟩
    by_cases hb : (s.size : Int) < a1
    · go_enter Try.func5, Try.ntmps5
      go_wp2_with (go_at_call 15; refine H15.out.mono ?_; rintro e w' ⟨rfl, rfl⟩)
      go_ret
      exact ⟨rfl, Below.refl _ _⟩
    obtain ⟨i, rfl⟩ : ∃ i : Nat, a1 = i := ⟨a1.toNat, by omega⟩
    have hi1 : 1 ≤ i := by omega
    have hi2 : i ≤ s.size := by omega
    have hs : s.size ≤ 1048576 := by omega
    obtain ⟨i', rfl⟩ : ∃ i', i = i' + 1 := ⟨i - 1, by omega⟩
    have hlt : i' < s.size := by omega
    have hlt' : (i' : Int) < (s.size : Int) := by omega
    go_enter Try.func5, Try.ntmps5
    go_wp2_with (go_at_call 15; refine H15.out.mono ?_; rintro e w' ⟨rfl, rfl⟩)
    refine (nul10 s hs _).mono ?_
    rintro e w2 ⟨b, rfl, hw2⟩
    have hw2 := hw2.symm
    subst hw2
    cases b with
    | true =>
      go_wp2
      go_ret
      exact ⟨rfl, Below.refl _ _⟩
    | false =>
      go_wp2_with fail
      refine (allowed16 t _).mono ?_
      rintro e w2 ⟨⟨k, hk, rfl, rfl⟩ | rfl, hw2⟩
      · have hw2 := hw2.symm
        subst hw2
        have H17 := hideQ (zz17 s (i' + 1) hi1 hi2 hs a2 k hk w')
        have H18 := hideQ (fun wx : World => model18 s (i' + 1) hi2 k hk a2 (s[i']'hlt) hs wx)
        have hss : s[i' + 1 - 1]'(by omega) = s[i']'hlt := rfl
        rw [hss] at H17
        obtain ⟨R, hR⟩ : ∃ R, U wrap64 (s.size + 1) k (s[i']'hlt) a2 (s.data.toList.drop (i' + 1)) = R := ⟨_, rfl⟩
        rw [hR] at H17 H18
        clear hR hss
        go_wp2_with fail
        refine H17.out.mono ?_
        rintro e w3 ⟨rfl, hB3⟩
        have HB3 := hideQ hB3
        obtain ⟨R1, R2⟩ := R
        clear hB3 H17
        go_wp2_with fail
        refine (H18.out w3).mono ?_
        rintro e w4 ⟨rfl, hw4⟩
        have hw4 := hw4.symm
        subst hw4
        clear H18
        go_wp2
        go_ret
        refine ⟨?_, HB3.out⟩
        simp
      · have hw2 := hw2.symm
        subst hw2
        go_wp2
        go_ret
        exact ⟨rfl, Below.refl _ _⟩
  · rw [decide_eq_false hz] at H15
    go_enter Try.func5, Try.ntmps5
    go_wp2_with (go_at_call 15; refine H15.out.mono ?_; rintro e w' ⟨rfl, rfl⟩)
    go_ret
    exact ⟨rfl, Below.refl _ _⟩

end Go.Proofs.Qxb6600554a
