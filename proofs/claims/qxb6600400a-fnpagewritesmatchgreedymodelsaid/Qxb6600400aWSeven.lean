/-
  SEAT b6600400a: WALKS 7: 'zzSameWrites' (10), the law 'FnPageWritesMatchGreedyModel' (3).
-/
import Derived.Test.Qxb6600400aWSix
namespace Go.Proofs.Qxb6600400a
open Go.RowKit
set_option linter.unusedVariables false

theorem same_nil (a1 a2 a3 : Option Addr) (c1 c2 c3 : Nat) (w : World) : Calls Try.prog 10 #[.slice a1 0 c1, .slice a2 0 c2, .slice a3 0 c3] w (LP w) := by
  go_enter Try.func10, Try.ntmps10
  go_wp2
  refine wp_loop_rounds 1 ?_
  rw [rounds_succ]
  go_wp2
  go_ret
  exact LP.mk (Below.refl _ _)

set_option maxRecDepth 100000 in
set_option maxHeartbeats 2000000 in
theorem same_any (g off cap q1 c1 q2 c2 : Nat) (L : List UInt8) (C : List (Nat × Nat)) (w : World) (hl : L.length ≤ 1048576) (hTi : Plain.Tiles L.length 0 C)
    (hc : ∀ i, i < L.length → w.cell? ⟨g, off + i, none⟩ = some (.int .u8 (L.getD i 0).toNat)) (hw1 : ∀ i p, C[i]? = some p → w.cell? ⟨q1, i, none⟩ = some (wv g off cap p)) (hw2 : ∀ (i : Nat) p, C[i]? = some p → w.cell? ⟨q2, i, none⟩ = some (.int .i64 p.2)) :
    Calls Try.prog 10 #[.slice (some ⟨q1, 0, none⟩) C.length c1, .slice (some ⟨q2, 0, none⟩) C.length c2, .slice (some ⟨g, off, none⟩) L.length cap] w (LP w) := by
  have hCl := Plain.tiles_len _ _ _ hTi
  have HTi := hideP hTi
  have HC := hideP hc
  have HW1 := hideP hw1
  have HW2 := hideP hw2
  clear hTi hc hw1 hw2
  have hd0 : ((C.length : Int) != (C.length : Int)) = false := by simp
  go_enter Try.func10, Try.ntmps10
  go_wp2
  go_loopw [7, 8] (fun pv iv wr => ∃ i nq : Nat, i ≤ C.length ∧ iv = .int .i64 i ∧ pv = .int .i64 (Plain.at_ C i L.length) ∧ wr = w.drewN nq) (fun _ iv _ => C.length - (intOf iv).toNat)
  case atStart => exact ⟨0, 0, Nat.zero_le _, rfl, by rw [Plain.at_zero _ _ HTi.out]; rfl, rfl⟩
  case round =>
    obtain ⟨i, nq, hi, rfl, rfl, rfl⟩ := hrel
    by_cases hlt : i < C.length
    · obtain ⟨⟨x, y⟩, hp⟩ : ∃ p, C[i]? = some p := ⟨C[i], List.getElem?_eq_getElem hlt⟩
      obtain ⟨t0, t1, t2, t3, t4⟩ := Plain.tiles_at _ _ _ _ HTi.out (x, y) hp
      have t1 : x < y := t1
      have t2 : y ≤ L.length := t2
      have t4 : Plain.at_ C i L.length = x := t4
      have HT3 : Hid (Plain.at_ C (i + 1) L.length = y) := t3
      obtain ⟨m, rfl⟩ : ∃ m, y = x + (m + 1) := ⟨y - x - 1, by omega⟩
      have hx1 : w.cell? ⟨q1, i, none⟩ = some (.slice (some ⟨g, off + x, none⟩) (m + 1) (cap - x)) := by
        rw [HW1.out i (x, x + (m + 1)) hp]; unfold wv; simp
      have hx2 : w.cell? ⟨q2, i, none⟩ = some (.int .i64 ((x : Int) + ((m : Int) + 1))) := by
        rw [HW2.out i (x, x + (m + 1)) hp]; simp
      rw [t4]
      clear hp t3 t4 t0 t1
      have hd1 : ((m : Int) + 1 != (x : Int) + ((m : Int) + 1) - (x : Int)) = false := by rw [bne_eq_false_iff_eq]; omega
      go_wp2_with fail
      go_loopw [10] (fun jv wr => ∃ j nq : Nat, j ≤ m + 1 ∧ jv = .int .i64 j ∧ wr = w.drewN nq) (fun jv _ => m + 1 - (intOf jv).toNat)
      case atStart => exact ⟨0, nq, Nat.zero_le _, rfl, rfl⟩
      case round =>
        obtain ⟨j, nq2, hj, rfl, rfl⟩ := hrel
        by_cases hjl : j < m + 1
        · obtain ⟨t, ht⟩ : ∃ t, t = L.getD (x + j) 0 := ⟨_, rfl⟩
          have hz1 : w.cell? ⟨g, off + (x + j), none⟩ = some (.int .u8 t.toNat) := by rw [ht]; exact HC.out (x + j) (by omega)
          have hz2 : w.cell? ⟨g, off + x + j, none⟩ = some (.int .u8 t.toNat) := by rw [Nat.add_assoc]; exact hz1
          have hd3 : ((t.toNat : Int) != (t.toNat : Int)) = false := by simp
          have hxj : (x : Int) + (j : Int) < (L.length : Int) := by omega
          have hxj2 : x + j < L.length := by omega
          have hjl2 : (j : Int) < (m : Int) + 1 := by omega
          clear ht
          go_wp2_with fail
          go_quiet (fail)
          go_wp2
          go_roundw
          case rel => exact ⟨j + 1, _, by omega, by go_num, rfl⟩
          case measure => simp [intOf]; omega
        · go_wp2
          go_roundw
          case rel => exact ⟨i + 1, nq2, by omega, by go_num, by rw [HT3.out]; go_num, rfl⟩
          case measure => simp [intOf]; omega
    · obtain rfl : i = C.length := by omega
      have he : Plain.at_ C C.length L.length = L.length := Plain.at_end _ _ _ (Nat.le_refl _)
      rw [he]
      clear he
      have hd1 : ((L.length : Int) == (L.length : Int)) = true := by simp
      go_wp2
      go_ret
      exact LP.mk (below_drewN (Below.refl _ _) nq)

theorem LP.up {w w1 w' : World} {e : Ending} (h : LP w1 e w') (hb : Below w.heap.size w w1) : LP w e w' := ⟨h.1, hb.trans (h.2.mono hb.size)⟩

set_option maxRecDepth 100000 in
set_option maxHeartbeats 2000000 in
theorem law3_any (o : Int) (a : Option Addr) (cap : Nat) (L : List UInt8) (w : World) (hcap : L.length ≤ cap) (hcm : cap ≤ maxLen) (hc : Row w a L) (hn : a = none → L = []) :
    Calls Try.prog 3 #[.int .i64 o, .slice a L.length cap] w (LP w) := by
  have HZ := hideP (zz6_any o a L.length cap w (Nat.le_trans hcap hcm))
  have hlm : L.length ≤ maxLen := Nat.le_trans hcap hcm
  unfold maxLen at hlm
  have HC := hideP hc
  have HN := hideP hn
  clear hc hn
  by_cases h1 : 1048576 < (L.length : Int)
  · go_enter Try.func3, Try.ntmps3
    go_wp2_with fail
    refine HZ.out.mono ?_
    rintro e w' ⟨b, rfl, rfl⟩
    cases b with
    | false => go_wp2; go_ret; exact LP.mk (Below.refl _ _)
    | true => go_wp2; go_ret; exact LP.mk (Below.refl _ _)
  go_enter Try.func3, Try.ntmps3
  go_wp2_with fail
  refine HZ.out.mono ?_
  rintro e w1 ⟨b, rfl, rfl⟩
  clear HZ
  cases b with
  | false => go_wp2; go_ret; exact LP.mk (Below.refl _ _)
  | true =>
    by_cases h2 : o < 0
    · go_wp2; go_ret; exact LP.mk (Below.refl _ _)
    by_cases h3 : 4611686018427387904 < o
    · go_wp2; go_ret; exact LP.mk (Below.refl _ _)
    have hl : L.length ≤ 1048576 := by omega
    go_wp2_with fail
    refine (clone_any a cap L w1 HN.out hl HC.out).mono ?_
    rintro e w2 ⟨a2, cap2, rfl, hc2, hcm2, hrow, hb2⟩
    have HB2 := hideP hb2
    have HRow := hideP hrow
    clear hb2 HN HC hrow
    go_wp2_with fail
    refine (model_any o a2 cap2 L w2 (by omega) (by omega) hl HRow.out).mono ?_
    rintro e w3 ⟨vc, rfl, hownc, hb3⟩
    rw [Plain.model_cuts] at hownc
    obtain ⟨ao, c2, rfl, hints⟩ := ints_open hownc
    have HInts := hideP hints
    have HB3 := hideP (HB2.out.trans (hb3.mono HB2.out.size))
    have HR3 := hideP (row_below HRow.out hb3)
    clear hb3 HB2 HRow hownc hints
    rcases HR3.out.cases with rfl | ⟨hpos, g, off, rfl, hg, hcell⟩
    · go_wp2_with fail
      refine (zz9_nil _ _ _ _).mono ?_
      rintro e w4 ⟨rfl, hb4⟩
      have HB4 := hideP (HB3.out.trans (hb4.mono HB3.out.size))
      have hz : ((Plain.cuts o []).map (·.2)).length = 0 := rfl
      clear hb4 HB3 HR3 HInts
      go_wp2_with fail
      refine (same_nil _ _ _ _ _ _ _).mono ?_
      rintro e w5 ⟨rfl, hb5⟩
      have HB5 := hideP (HB4.out.trans (hb5.mono HB4.out.size))
      clear hb5 HB4
      go_wp2
      go_ret
      exact LP.mk HB5.out
    · have HCe := hideP hcell
      clear hcell HR3
      go_wp2_with fail
      refine (zz9_any o g off cap2 L w3 (by omega) (by omega) hl hpos hc2 hcm2 hg HCe.out).mono ?_
      rintro e w4 ⟨v1, rfl, hown1, hb4⟩
      obtain ⟨q1, c1, rfl, hq1, hcl1⟩ := writes_open hown1 (cuts_pos hpos)
      obtain ⟨q2, rfl, hq2, hq2', hcl2⟩ := HInts.out (by simpa using cuts_pos hpos)
      have hTi := Plain.cuts_tiles o L
      generalize Plain.cuts o L = C at *
      have HS := hideP (same_any g off cap2 q1 c1 q2 c2 L C w4 hl hTi (fun i hi => (hb4.cell (by exact hg)).trans (HCe.out i hi)) hcl1 (fun i p hp => (hb4.cell (by exact hq2')).trans (hcl2 i p.2 (by rw [List.getElem?_map, hp]; rfl))))
      have HB4 := hideP (HB3.out.trans (hb4.mono HB3.out.size))
      clear hb4 HB3 hown1 hcl1 hcl2 HCe hTi HInts
      go_wp2_with fail
      refine HS.out.mono ?_
      rintro e w5 ⟨rfl, hb5⟩
      have HB5 := hideP (HB4.out.trans (hb5.mono HB4.out.size))
      clear hb5 HB4 HS
      go_wp2
      go_ret
      exact LP.mk HB5.out

end Go.Proofs.Qxb6600400a
