/-
  SEAT b6600062a: WALKS 1: 'zzBytes_..' (functions 31, 33) and 'bytesOf' (22).
-/
import Derived.Test.Qxb6600062aProg
import Derived.WalkKit
import Derived.WalkSpells
import Derived.WalkLawsBesides
namespace Go.Proofs.Qxb6600062a
open Go.RowKit

/-- A slice of strings as the walks see it: nothing, or cells at a plain address. -/
def StrSl (w : World) (a : Option Addr) (ss : List ByteArray) : Prop :=
  ss = [] ∨ ∃ b off, a = some ⟨b, off, none⟩ ∧ b < w.heap.size ∧ ∀ i, i < ss.length → w.cell? ⟨b, off + i, none⟩ = some (.string (ss.getD i ByteArray.empty))

def sumSz : List ByteArray → Nat
  | [] => 0
  | s :: l => s.size + sumSz l

theorem sumSz_take_succ : ∀ (ss : List ByteArray) (k : Nat), k < ss.length → sumSz (ss.take (k + 1)) = sumSz (ss.take k) + (ss.getD k ByteArray.empty).size
  | [], k, h => by simp at h
  | s :: l, 0, _ => by simp [sumSz]
  | s :: l, k + 1, h => by
    have := sumSz_take_succ l k (by simpa using h)
    simp only [List.take_succ_cons, sumSz, this, List.getD_cons_succ]
    omega

theorem sumSz_take_le : ∀ (ss : List ByteArray) (k : Nat), sumSz (ss.take k) ≤ sumSz ss
  | [], k => by simp
  | s :: l, 0 => by simp [sumSz]
  | s :: l, k + 1 => by
    have := sumSz_take_le l k
    simp only [List.take_succ_cons, sumSz]
    omega

def ZzP (ss : List ByteArray) (w : World) (e : Ending) (w' : World) : Prop :=
  ∃ b : Bool, e = .returned (.bool b) ∧ w' = w ∧ (b = true → ∀ k, k < ss.length → (ss.getD k ByteArray.empty).size ≤ 1048576)
theorem ZzP.no (ss : List ByteArray) (w : World) : ZzP ss w (.returned (.bool false)) w := ⟨false, rfl, rfl, fun h => by cases h⟩
theorem ZzP.yes (ss : List ByteArray) (w : World) (h : ∀ k, k < ss.length → (ss.getD k ByteArray.empty).size ≤ 1048576) : ZzP ss w (.returned (.bool true)) w := ⟨true, rfl, rfl, fun _ => h⟩

set_option maxHeartbeats 1000000 in
theorem zz33_any (s after : ByteArray) (a : Option Addr) (cap : Nat) (ss : List ByteArray) (taken i : Int) (w : World)
    (hs : s.size ≤ maxLen) (ha : after.size ≤ maxLen) (hcap : ss.length ≤ maxLen) (hsz : ∀ k, k < ss.length → (ss.getD k ByteArray.empty).size ≤ maxLen) (hc : StrSl w a ss) :
    Calls Try.prog 33 #[.string s, .string after, .slice a ss.length cap, .int .i64 taken, .int .i64 i] w (ZzP ss w) := by
  unfold maxLen at hs ha hcap hsz
  by_cases h1 : 1048576 < (s.size : Int)
  · go_enter Try.func33, Try.ntmps33
    go_wp2
    go_ret
    exact ZzP.no ss w
  by_cases h2 : 1048576 < (after.size : Int)
  · go_enter Try.func33, Try.ntmps33
    go_wp2
    go_ret
    exact ZzP.no ss w
  by_cases h3 : 1048576 < (s.size : Int) + (after.size : Int)
  · go_enter Try.func33, Try.ntmps33
    go_wp2
    go_ret
    exact ZzP.no ss w
  by_cases h4 : 1048576 < (ss.length : Int)
  · go_enter Try.func33, Try.ntmps33
    go_wp2
    go_ret
    exact ZzP.no ss w
  by_cases h5 : 1048576 < (s.size : Int) + (after.size : Int) + (ss.length : Int)
  · go_enter Try.func33, Try.ntmps33
    go_wp2
    go_ret
    exact ZzP.no ss w
  rcases hc with rfl | ⟨b, off, rfl, hb, hc⟩
  · go_enter Try.func33, Try.ntmps33
    go_wp2
    refine wp_loop_rounds 1 ?_
    rw [rounds_succ]
    go_wp2
    go_ret
    exact ZzP.yes [] w (by simp)
  go_enter Try.func33, Try.ntmps33
  go_wp2
  go_loop [11, 12] (fun z i => ∃ k : Nat, k ≤ ss.length ∧ i = .int .i64 k ∧ (∃ n : Nat, z = .int .i64 n ∧ n ≤ 1048576) ∧ ∀ j, j < k → (ss.getD j ByteArray.empty).size ≤ 1048576) (fun _ i => ss.length - (intOf i).toNat)
  case atStart => exact ⟨0, Nat.zero_le _, rfl, ⟨s.size + after.size + ss.length, by go_num, by omega⟩, fun j hj => absurd hj (by omega)⟩
  case round =>
    obtain ⟨k, hk, rfl, ⟨n, rfl, hn⟩, hall⟩ := hrel
    by_cases hlt : k < ss.length
    · obtain ⟨t, ht⟩ : ∃ t, t = ss.getD k ByteArray.empty := ⟨_, rfl⟩
      have hcx : w.cell? ⟨b, off + k, none⟩ = some (.string t) := by rw [ht]; exact hc k hlt
      have htm : t.size ≤ 9223372036854775807 := by rw [ht]; exact hsz k hlt
      have HA : Hid (∀ j, j < k → (ss.getD j ByteArray.empty).size ≤ 1048576) := hall
      have HT : Hid (t = ss.getD k ByteArray.empty) := ht
      clear hall ht hc hsz
      by_cases ht1 : 1048576 < (t.size : Int)
      · go_wp2
        go_ret
        exact ZzP.no ss w
      by_cases ht2 : 1048576 < (n : Int) + (t.size : Int)
      · go_wp2
        go_ret
        exact ZzP.no ss w
      go_wp2
      go_round
      case rel => exact ⟨k + 1, by omega, by go_num, ⟨n + t.size, by go_num, by omega⟩, fun j hj => by
        by_cases hj' : j < k
        · exact HA.out j hj'
        · obtain rfl : j = k := by omega
          rw [← HT.out]; omega⟩
      case measure => simp [intOf]; omega
    · have HA : Hid (∀ j, j < k → (ss.getD j ByteArray.empty).size ≤ 1048576) := hall
      clear hall hc hsz
      go_wp2
      go_ret
      exact ZzP.yes ss w (fun j hj => HA.out j (by omega))

set_option maxHeartbeats 1000000 in
theorem zz31_any (s after : ByteArray) (a : Option Addr) (cap : Nat) (ss : List ByteArray) (taken i : Int) (w : World)
    (hs : s.size ≤ maxLen) (ha : after.size ≤ maxLen) (hcap : ss.length ≤ maxLen) (hsz : ∀ k, k < ss.length → (ss.getD k ByteArray.empty).size ≤ maxLen) (hc : StrSl w a ss) :
    Calls Try.prog 31 #[.string s, .string after, .slice a ss.length cap, .int .i64 taken, .int .i64 i] w (ZzP ss w) := by
  unfold maxLen at hs ha hcap hsz
  by_cases h1 : 1048576 < (s.size : Int)
  · go_enter Try.func31, Try.ntmps31
    go_wp2
    go_ret
    exact ZzP.no ss w
  by_cases h2 : 1048576 < (after.size : Int)
  · go_enter Try.func31, Try.ntmps31
    go_wp2
    go_ret
    exact ZzP.no ss w
  by_cases h3 : 1048576 < (s.size : Int) + (after.size : Int)
  · go_enter Try.func31, Try.ntmps31
    go_wp2
    go_ret
    exact ZzP.no ss w
  by_cases h4 : 1048576 < (ss.length : Int)
  · go_enter Try.func31, Try.ntmps31
    go_wp2
    go_ret
    exact ZzP.no ss w
  by_cases h5 : 1048576 < (s.size : Int) + (after.size : Int) + (ss.length : Int)
  · go_enter Try.func31, Try.ntmps31
    go_wp2
    go_ret
    exact ZzP.no ss w
  rcases hc with rfl | ⟨b, off, rfl, hb, hc⟩
  · go_enter Try.func31, Try.ntmps31
    go_wp2
    refine wp_loop_rounds 1 ?_
    rw [rounds_succ]
    go_wp2
    go_ret
    exact ZzP.yes [] w (by simp)
  go_enter Try.func31, Try.ntmps31
  go_wp2
  go_loop [11, 12] (fun z i => ∃ k : Nat, k ≤ ss.length ∧ i = .int .i64 k ∧ (∃ n : Nat, z = .int .i64 n ∧ n ≤ 1048576) ∧ ∀ j, j < k → (ss.getD j ByteArray.empty).size ≤ 1048576) (fun _ i => ss.length - (intOf i).toNat)
  case atStart => exact ⟨0, Nat.zero_le _, rfl, ⟨s.size + after.size + ss.length, by go_num, by omega⟩, fun j hj => absurd hj (by omega)⟩
  case round =>
    obtain ⟨k, hk, rfl, ⟨n, rfl, hn⟩, hall⟩ := hrel
    by_cases hlt : k < ss.length
    · obtain ⟨t, ht⟩ : ∃ t, t = ss.getD k ByteArray.empty := ⟨_, rfl⟩
      have hcx : w.cell? ⟨b, off + k, none⟩ = some (.string t) := by rw [ht]; exact hc k hlt
      have htm : t.size ≤ 9223372036854775807 := by rw [ht]; exact hsz k hlt
      have HA : Hid (∀ j, j < k → (ss.getD j ByteArray.empty).size ≤ 1048576) := hall
      have HT : Hid (t = ss.getD k ByteArray.empty) := ht
      clear hall ht hc hsz
      by_cases ht1 : 1048576 < (t.size : Int)
      · go_wp2
        go_ret
        exact ZzP.no ss w
      by_cases ht2 : 1048576 < (n : Int) + (t.size : Int)
      · go_wp2
        go_ret
        exact ZzP.no ss w
      go_wp2
      go_round
      case rel => exact ⟨k + 1, by omega, by go_num, ⟨n + t.size, by go_num, by omega⟩, fun j hj => by
        by_cases hj' : j < k
        · exact HA.out j hj'
        · obtain rfl : j = k := by omega
          rw [← HT.out]; omega⟩
      case measure => simp [intOf]; omega
    · have HA : Hid (∀ j, j < k → (ss.getD j ByteArray.empty).size ≤ 1048576) := hall
      clear hall hc hsz
      go_wp2
      go_ret
      exact ZzP.yes ss w (fun j hj => HA.out j (by omega))

def BoP (s after : ByteArray) (ss : List ByteArray) (w : World) (e : Ending) (w' : World) : Prop :=
  ∃ t : Int, e = .returned (.int .i64 t) ∧ w' = w ∧ (t ≤ 1048576 → s.size + after.size + 16 * ss.length + sumSz ss ≤ 1048576)
theorem BoP.mk (s after : ByteArray) (ss : List ByteArray) (w : World) (t : Int) (h : t ≤ 1048576 → s.size + after.size + 16 * ss.length + sumSz ss ≤ 1048576) : BoP s after ss w (.returned (.int .i64 t)) w := ⟨t, rfl, rfl, h⟩

set_option maxHeartbeats 1000000 in
theorem bytesOf_any (s after : ByteArray) (a : Option Addr) (cap : Nat) (ss : List ByteArray) (w : World)
    (hs : s.size ≤ 1048576) (ha : after.size ≤ 1048576) (hl : ss.length ≤ 65536) (hsz : ∀ k, k < ss.length → (ss.getD k ByteArray.empty).size ≤ 1048576) (hc : StrSl w a ss) :
    Calls Try.prog 22 #[.string s, .string after, .slice a ss.length cap] w (BoP s after ss w) := by
  rcases hc with rfl | ⟨b, off, rfl, hb, hc⟩
  · go_enter Try.func22, Try.ntmps22
    go_wp2
    refine wp_loop_rounds 1 ?_
    rw [rounds_succ]
    go_wp2
    go_ret
    exact BoP.mk s after [] w _ (by simp [sumSz]; omega)
  go_enter Try.func22, Try.ntmps22
  go_wp2
  go_loop [7, 8] (fun z i => ∃ k : Nat, k ≤ ss.length ∧ i = .int .i64 k ∧ z = .int .i64 ((s.size + after.size + 16 * ss.length + sumSz (ss.take k) : Nat) : Int) ∧ (1 ≤ k → s.size + after.size + 16 * ss.length + sumSz (ss.take k) ≤ 1048576)) (fun _ i => ss.length - (intOf i).toNat)
  case atStart => exact ⟨0, Nat.zero_le _, rfl, by simp [sumSz], fun h => absurd h (by omega)⟩
  case round =>
    obtain ⟨k, hk, rfl, rfl, hle⟩ := hrel
    by_cases hlt : k < ss.length
    · obtain ⟨t, ht⟩ : ∃ t, t = ss.getD k ByteArray.empty := ⟨_, rfl⟩
      have hcx : w.cell? ⟨b, off + k, none⟩ = some (.string t) := by rw [ht]; exact hc k hlt
      have htm : t.size ≤ 1048576 := by rw [ht]; exact hsz k hlt
      have hst : sumSz (ss.take (k + 1)) = sumSz (ss.take k) + t.size := by rw [ht]; exact sumSz_take_succ ss k hlt
      have hbd : s.size + after.size + 16 * ss.length + sumSz (ss.take k) ≤ 4194304 := by
        by_cases h1 : 1 ≤ k
        · have := hle h1; omega
        · obtain rfl : k = 0 := by omega
          simp [sumSz]; omega
      have hmono : sumSz (ss.take (k + 1)) ≤ sumSz ss := sumSz_take_le ss (k + 1)
      have HS : Hid (sumSz (ss.take (k + 1)) = sumSz (ss.take k) + t.size) := hst
      have HM : Hid (sumSz (ss.take (k + 1)) ≤ sumSz ss) := hmono
      clear hst ht hc hsz hle hmono
      generalize sumSz (ss.take k) = q at *
      by_cases ht2 : 1048576 < ((s.size : Int) + (after.size : Int) + 16 * (ss.length : Int) + (q : Int)) + (t.size : Int)
      · go_wp2
        go_ret
        exact BoP.mk s after ss w _ (fun h => by have := HS.out; have := HM.out; omega)
      · go_wp2
        go_round
        case rel =>
          have e := HS.out
          exact ⟨k + 1, by omega, by go_num, by rw [e]; go_num, fun _ => by rw [e]; omega⟩
        case measure => simp [intOf]; omega
    · have hq : sumSz (ss.take k) = sumSz ss := by rw [List.take_of_length_le (by omega)]
      rw [hq] at hle ⊢
      clear hq hc hsz hle
      go_wp2
      go_ret
      exact BoP.mk s after ss w _ (fun h => by omega)

end Go.Proofs.Qxb6600062a
