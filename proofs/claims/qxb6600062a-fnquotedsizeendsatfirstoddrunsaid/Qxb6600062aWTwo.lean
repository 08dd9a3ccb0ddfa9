/-
  SEAT b6600062a: WALKS 2: 'cloneStrings' (23).
-/
import Derived.Test.Qxb6600062aWOne
import Derived.Lib.SliceRun
namespace Go.Proofs.Qxb6600062a
open Go.RowKit

theorem Try.info9 : (Try.prog.info? 9).map (fun i => (i.zero, i.size, i.bytes)) = some (some (.string ByteArray.empty), 1, 16) := by kernel_rfl

def ClP (ss : List ByteArray) (w : World) (e : Ending) (w' : World) : Prop :=
  ∃ (a : Option Addr) (cap : Nat), e = .returned (.slice a ss.length cap) ∧ ss.length ≤ cap ∧ cap ≤ maxLen ∧ StrSl w' a ss ∧ Below w.heap.size w w'
theorem ClP.mk {ss : List ByteArray} {w w' : World} {a : Option Addr} {n cap : Nat} (hn : ss.length = n) (h1 : n ≤ cap) (h2 : cap ≤ maxLen) (h3 : StrSl w' a ss) (h4 : Below w.heap.size w w') : ClP ss w (.returned (.slice a n cap)) w' :=
  ⟨a, cap, by rw [hn], by omega, h2, h3, h4⟩

/-- The new row after k rounds. -/
def clRow (ss : List ByteArray) (k : Nat) : List Value := (ss.take k).map Value.string ++ List.replicate (ss.length - k) (.string ByteArray.empty)

theorem clRow_len (ss : List ByteArray) (k : Nat) (h : k ≤ ss.length) : (clRow ss k).length = ss.length := by simp [clRow]; omega

theorem clRow_at (ss : List ByteArray) (k : Nat) (h : k < ss.length) : (clRow ss k)[k]? = some (.string ByteArray.empty) := by
  unfold clRow
  rw [List.getElem?_append_right (by simp; omega), List.getElem?_replicate, if_pos (by simp; omega)]

theorem clRow_succ (ss : List ByteArray) (k : Nat) (h : k < ss.length) : (clRow ss k).set k (.string (ss.getD k ByteArray.empty)) = clRow ss (k + 1) := by
  apply List.ext_getElem?
  intro j
  have hl : (clRow ss k).length = ss.length := clRow_len ss k (by omega)
  rw [List.getElem?_set]
  by_cases hj : k = j
  · subst hj
    rw [if_pos rfl, if_pos (by omega)]
    unfold clRow
    rw [List.getElem?_append_left (by simp; omega), List.getElem?_map, List.getElem?_take, if_pos (by omega), List.getD_eq_getElem?_getD, List.getElem?_eq_getElem h]
    rfl
  · rw [if_neg hj]
    unfold clRow
    by_cases hj2 : j < k
    · rw [List.getElem?_append_left (by simp; omega), List.getElem?_append_left (by simp; omega)]
      simp only [List.getElem?_map, List.getElem?_take, if_pos hj2, if_pos (show j < k + 1 by omega)]
    · rw [List.getElem?_append_right (by simp; omega), List.getElem?_append_right (by simp; omega)]
      simp only [List.getElem?_replicate, List.length_map, List.length_take]
      have e1 : min k ss.length = k := by omega
      have e2 : min (k + 1) ss.length = k + 1 := by omega
      rw [e1, e2]
      by_cases hj3 : j - k < ss.length - k
      · rw [if_pos hj3, if_pos (by omega)]
      · rw [if_neg hj3, if_neg (by omega)]

theorem clRow_all (ss : List ByteArray) : clRow ss ss.length = ss.map Value.string := by simp [clRow]

theorem strSl_of_row {w : World} {base g n cap : Nat} {ss : List ByteArray} (hn : ss.length = n) (h : w.ownsRow base 9 1 (.slice (some ⟨g, 0, none⟩) n cap) n (ss.map Value.string)) : StrSl w (some ⟨g, 0, none⟩) ss := by
  refine .inr ⟨g, 0, rfl, (h.lt g rfl).2, fun i hi => ?_⟩
  have := h.cellAt i (by omega)
  rw [Nat.zero_add, this, List.getElem?_map, List.getD_eq_getElem?_getD, List.getElem?_eq_getElem hi]
  rfl

set_option maxHeartbeats 1000000 in
theorem clone_any (a : Option Addr) (cap : Nat) (ss : List ByteArray) (w : World) (ha : a = none → ss = []) (hl : ss.length ≤ 65536) (hc : StrSl w a ss) :
    Calls Try.prog 23 #[.slice a ss.length cap] w (ClP ss w) := by
  have q29 : ∀ (w : World) (a : Option Addr) (n c n' c' : Nat), (binOp .eql 29 (.slice a n c) (.slice none n' c')).run Try.prog w = .ok (.bool a.isNone) w := fun w a n c n' c' => Lib.run_eql_slice_nil w _ _ a n c n' c' Try.underlying29
  cases a with
  | none =>
    obtain rfl := ha rfl
    go_enter Try.func23, Try.ntmps23
    go_wp2
    go_ret
    exact ClP.mk rfl (Nat.le_refl _) (by decide) (.inl rfl) (Below.refl _ _)
  | some x =>
    obtain ⟨i0, hi, hz0, hz1, hz2⟩ := info_parts Try.info9
    go_enter Try.func23, Try.ntmps23
    go_wp2_with (at_make; refine wpList_make_full _ rfl _ _ 29 rfl w.heap.size 9 i0 (.string ByteArray.empty) 1 Try.underlying29 hi hz0 hz1 _ _ _ _ ss.length rfl rfl rfl rfl (by rw [hz2]; omega) (by unfold maxLen; omega) (Nat.le_refl _) ?_; intro w1 hown hgrow)
    have hown0 : w1.ownsRow w.heap.size 9 1 (.slice (some ⟨w.heap.size, 0, none⟩) ss.length ss.length) ss.length (clRow ss 0) := by
      have e : (madeCells (Value.string ByteArray.empty).cells (ss.length * 1)).toList = clRow ss 0 := by
        rw [Nat.mul_one]
        show (madeCells #[Value.string ByteArray.empty] ss.length).toList = _
        rw [toList_madeCells_one]
        simp [clRow]
      rw [e] at hown
      exact hown
    have hbel : Below w.heap.size w w1 := (Below.refl _ _).grown hgrow (Nat.le_refl _) (fun k hk => by cases hk)
    clear hown hgrow
    rcases hc with rfl | ⟨b, off, hx, hb, hc⟩
    · go_wp2
      refine wp_loop_rounds 1 ?_
      rw [rounds_succ]
      go_wp2
      go_ret
      exact ClP.mk rfl (Nat.le_refl _) (by decide) (.inl rfl) hbel
    · cases hx
      have HO : Hid (w1.ownsRow w.heap.size 9 1 (.slice (some ⟨w.heap.size, 0, none⟩) ss.length ss.length) ss.length (clRow ss 0)) := hown0
      clear hown0
      go_wp2
      go_loopw [4] (fun i wr => ∃ k : Nat, k ≤ ss.length ∧ i = .int .i64 k ∧ wr.ownsRow w.heap.size 9 1 (.slice (some ⟨w.heap.size, 0, none⟩) ss.length ss.length) ss.length (clRow ss k) ∧ Below w.heap.size w wr) (fun i _ => ss.length - (intOf i).toNat)
      case atStart => exact ⟨0, Nat.zero_le _, rfl, HO.out, hbel⟩
      case round =>
        obtain ⟨k, hk, rfl, hown, hbr⟩ := hrel
        clear HO hbel
        by_cases hlt : k < ss.length
        · obtain ⟨t, ht⟩ : ∃ t, t = ss.getD k ByteArray.empty := ⟨_, rfl⟩
          have hcx : wr.cell? ⟨b, off + k, none⟩ = some (.string t) := by rw [ht]; exact (hbr.cell (by exact hb)).trans (hc k hlt)
          have hcw : wr.cell? ⟨w.heap.size, k, none⟩ = some (.string ByteArray.empty) := by rw [hown.cellAt k (by omega)]; exact clRow_at ss k hlt
          have hfw : wr.frozen? ⟨w.heap.size, k, none⟩ = false := hown.frozenAt k
          have hst := hown.stored k (.string t)
          rw [ht, clRow_succ ss k hlt, ← ht] at hst
          have HS := hst
          have HB : Hid (Below w.heap.size w (wr.setCell ⟨w.heap.size, k, none⟩ (.string t))) := hbr.setCell (by exact Nat.le_refl _) _
          have HO2 : Hid ((wr.setCell ⟨w.heap.size, k, none⟩ (.string t)).ownsRow w.heap.size 9 1 (.slice (some ⟨w.heap.size, 0, none⟩) ss.length ss.length) ss.length (clRow ss (k + 1))) := hst.1
          clear hst HS ht hown hc hbr
          go_wp2
          go_roundw
          case rel => exact ⟨k + 1, by omega, by go_num, HO2.out, HB.out⟩
          case measure => simp [intOf]; omega
        · have hke : k = ss.length := by omega
          rw [hke, clRow_all] at hown
          have HO2 : Hid (wr.ownsRow w.heap.size 9 1 (.slice (some ⟨w.heap.size, 0, none⟩) ss.length ss.length) ss.length (ss.map Value.string)) := hown
          clear hke hown hc
          go_wp2
          go_ret
          exact ClP.mk rfl (Nat.le_refl _) (by unfold maxLen; omega) (strSl_of_row rfl HO2.out) hbr

end Go.Proofs.Qxb6600062a
