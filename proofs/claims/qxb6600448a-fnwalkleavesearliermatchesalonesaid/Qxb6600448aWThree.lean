/-
  SEAT b6600448a: WALKS 3: strings.Cut at "/" (32), 'add' (31).
-/
import Derived.Test.Qxb6600448aWTwo
import Derived.Test.Qxb6600448aPlain
import Derived.Lib.Bytealg
import Derived.Deep.RegionLaw
namespace Go.Proofs.Qxb6600448a
open Go.RowKit
set_option linter.unusedVariables false

theorem idx35_any (s : ByteArray) (c : Int) (w : World) : Calls Try.prog 35 #[.string s, .int .u8 c] w fun e w' => e = .returned (.int .i64 (Lib.indexByte s.data.toList c.toNat.toUInt8)) ∧ w' = w := by
  go_enter Try.func35, Try.ntmps35
  go_wp2
  rw [run_callFunc_extern Try.func39 (by kernel_rfl) (by kernel_rfl) (by kernel_rfl) (e := Extern.BytealgIndexByte.indexByte) (by kernel_rfl), Lib.run_indexByteString]
  simp only [Result.andThen]
  rw [Oper.upon_value]
  go_wp2
  go_ret
  exact ⟨rfl, rfl⟩

theorem index_lt (q : UInt8) : ∀ (l : List UInt8) (k : Nat), Lib.indexByte l q = (k : Int) → k < l.length
  | [], k, h => by unfold Lib.indexByte at h; omega
  | b :: l, k, h => by
    unfold Lib.indexByte at h
    by_cases hb : (b == q) = true
    · rw [if_pos hb] at h; simp; omega
    · rw [if_neg hb] at h
      by_cases h2 : (Lib.indexByte l q == -1) = true
      · rw [if_pos h2] at h; omega
      · rw [if_neg h2] at h
        have h3 : Lib.indexByte l q ≠ -1 := by simpa using h2
        have h4 := Lib.indexByte_ge l q
        have := index_lt q l (k - 1) (by omega)
        simp; omega

theorem size_toList (s : ByteArray) : s.data.toList.length = s.size := by rw [Array.length_toList]; rfl

set_option maxHeartbeats 1000000 in
theorem index_any (s : ByteArray) : ∃ i : Int, (i = -1 ∨ ∃ k : Nat, i = k ∧ k + 1 ≤ s.size) ∧ ∀ w, Calls Try.prog 34 #[.string s, .string ⟨#[47]⟩] w fun e w' => e = .returned (.int .i64 i) ∧ w' = w := by
  cases hb : ([47] == s.toList) with
  | true =>
    have hs : s.size = 1 := by
      have h1 : [47] = s.toList := by simpa using hb
      rw [ByteArray.toList_eq] at h1
      rw [← size_toList, ← h1]; rfl
    refine ⟨0, .inr ⟨0, rfl, by omega⟩, fun w => ?_⟩
    clear hs
    go_enter Try.func34, Try.ntmps34
    go_wp2
    go_ret
    exact ⟨rfl, rfl⟩
  | false =>
    refine ⟨Lib.indexByte s.data.toList 47, ?_, fun w => ?_⟩
    · by_cases h : Lib.indexByte s.data.toList 47 = -1
      · exact .inl h
      · have hge := Lib.indexByte_ge s.data.toList 47
        obtain ⟨k, hk⟩ : ∃ k : Nat, Lib.indexByte s.data.toList 47 = (k : Int) := ⟨(Lib.indexByte s.data.toList 47).toNat, by omega⟩
        have := index_lt 47 _ k hk
        rw [size_toList] at this
        exact .inr ⟨k, hk, by omega⟩
    · go_enter Try.func34, Try.ntmps34
      go_wp2_with (go_at_call 35; refine (idx35_any _ _ _).mono ?_; rintro e w' ⟨rfl, rfl⟩)
      go_ret
      exact ⟨rfl, rfl⟩

set_option maxHeartbeats 1000000 in
theorem cut33_any (s : ByteArray) (hs : s.size ≤ 1048576) : ∃ (a b : ByteArray) (f : Bool), b.size ≤ s.size ∧
    ∀ w, Calls Try.prog 33 #[.string s, .string ⟨#[47]⟩] w fun e w' => e = .returned (.tuple #[.string a, .string b, .bool f]) ∧ ∃ n, w' = w.drewN n := by
  obtain ⟨i, hi, hc⟩ := index_any s
  have HC := hideP hc
  clear hc
  rcases hi with rfl | ⟨k, rfl, hk⟩
  · refine ⟨s, ⟨#[]⟩, false, Nat.zero_le _, fun w => ?_⟩
    go_enter Try.func33, Try.ntmps33
    go_wp2_with (go_at_call 34; refine (HC.out _).mono ?_; rintro e w' ⟨rfl, rfl⟩)
    go_ret3
    exact ⟨rfl, 0, rfl⟩
  · refine ⟨s.extract 0 k, s.extract (k + 1) s.size, true, by simp, fun w => ?_⟩
    have hk1 : (k : Int) + 1 ≤ (s.size : Int) := by omega
    go_enter Try.func33, Try.ntmps33
    go_wp2_with (go_at_call 34; refine (HC.out _).mono ?_; rintro e w' ⟨rfl, rfl⟩)
    go_quiet (fail)
    go_wp2
    go_ret3
    exact ⟨rfl, _, rfl⟩

set_option maxHeartbeats 1000000 in
theorem cut_any (s : ByteArray) (hs : s.size ≤ 1048576) : ∃ (a b : ByteArray) (f : Bool), b.size ≤ s.size ∧
    ∀ w, Calls Try.prog 32 #[.string s, .string ⟨#[47]⟩] w fun e w' => e = .returned (.tuple #[.string a, .string b, .bool f]) ∧ ∃ n, w' = w.drewN n := by
  obtain ⟨a, b, f, hb, hc⟩ := cut33_any s hs
  have HC := hideP hc
  clear hc
  refine ⟨a, b, f, hb, fun w => ?_⟩
  go_enter Try.func32, Try.ntmps32
  go_wp2_with (go_at_call 33; refine (HC.out _).mono ?_; rintro e w' ⟨rfl, n, rfl⟩)
  go_ret3
  exact ⟨rfl, n, rfl⟩

end Go.Proofs.Qxb6600448a
