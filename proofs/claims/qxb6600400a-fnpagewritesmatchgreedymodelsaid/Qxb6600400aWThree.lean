/-
  SEAT b6600400a: WALKS 3: the law 'FnPageWritesSameCutsWholePagesLater' (5).
-/
import Derived.Test.Qxb6600400aWTwo
import Derived.BigQuiet
import Derived.Deep.QuietTactic
namespace Go.Proofs.Qxb6600400a
open Go.RowKit
set_option linter.unusedVariables false

def LP (w : World) (e : Ending) (w' : World) : Prop := e = .returned (.bool true) ∧ Below w.heap.size w w'
theorem LP.mk {w w' : World} (h : Below w.heap.size w w') : LP w (.returned (.bool true)) w' := ⟨rfl, h⟩

theorem cuts_pos {o : Int} {L : List UInt8} (h : 0 < L.length) : 0 < (Plain.cuts o L).length := by
  have := Plain.cuts_tiles o L
  cases hC : Plain.cuts o L with
  | nil => rw [hC] at this; simp only [Plain.Tiles] at this; omega
  | cons p l => simp

theorem Row.cases {w : World} {a : Option Addr} {L : List UInt8} (h : Row w a L) : L = [] ∨ (0 < L.length ∧ ∃ b off, a = some ⟨b, off, none⟩ ∧ b < w.heap.size ∧ ∀ i, i < L.length → w.cell? ⟨b, off + i, none⟩ = some (.int .u8 (L.getD i 0).toNat)) := by
  rcases h with h | h
  · exact .inl h
  · cases L with
    | nil => exact .inl rfl
    | cons x l => exact .inr ⟨by simp, h⟩

set_option maxRecDepth 100000 in
set_option maxHeartbeats 2000000 in
theorem law5_any (o k : Int) (a : Option Addr) (cap : Nat) (L : List UInt8) (w : World) (hcap : L.length ≤ cap) (hcm : cap ≤ maxLen) (hc : Row w a L) (hn : a = none → L = []) :
    Calls Try.prog 5 #[.int .i64 o, .int .i64 k, .slice a L.length cap] w (LP w) := by
  have HZ := hideP (zz13_any o k a L.length cap w (Nat.le_trans hcap hcm))
  have hlm : L.length ≤ maxLen := Nat.le_trans hcap hcm
  unfold maxLen at hlm
  have HC := hideP hc
  have HN := hideP hn
  clear hc hn
  by_cases h1 : 1048576 < (L.length : Int)
  · go_enter Try.func5, Try.ntmps5
    go_wp2_with fail
    refine HZ.out.mono ?_
    rintro e w' ⟨b, rfl, rfl⟩
    cases b with
    | false => go_wp2; go_ret; exact LP.mk (Below.refl _ _)
    | true => go_wp2; go_ret; exact LP.mk (Below.refl _ _)
  go_enter Try.func5, Try.ntmps5
  go_wp2_with fail
  refine HZ.out.mono ?_
  rintro e w1 ⟨b, rfl, rfl⟩
  clear HZ
  cases b with
  | false => go_wp2; go_ret; exact LP.mk (Below.refl _ _)
  | true =>
    by_cases h2 : o < 0
    · go_wp2; go_ret; exact LP.mk (Below.refl _ _)
    by_cases h3 : 4611686018427387904 < o
    · go_wp2; go_ret; exact LP.mk (Below.refl _ _)
    by_cases h4 : k < 0
    · go_wp2; go_ret; exact LP.mk (Below.refl _ _)
    by_cases h5 : 1048576 < k
    · go_wp2; go_ret; exact LP.mk (Below.refl _ _)
    have hl : L.length ≤ 1048576 := by omega
    go_wp2_with fail
    refine (clone_any a cap L w1 HN.out hl HC.out).mono ?_
    rintro e w2 ⟨a2, cap2, rfl, hc2, hcm2, hrow, hb2⟩
    rcases hrow.cases with rfl | ⟨hpos', g, off, rfl, hg, hcell⟩
    · have HB2 := hideP hb2
      clear hb2 HN HC
      go_wp2_with fail
      refine (zz9_nil _ _ _ _).mono ?_
      rintro e w3 ⟨rfl, hb3⟩
      have HB3 := hideP (HB2.out.trans (hb3.mono HB2.out.size))
      clear hb3 HB2
      go_wp2_with fail
      refine (zz9_nil _ _ _ _).mono ?_
      rintro e w4 ⟨rfl, hb4⟩
      have HB4 := hideP (HB3.out.trans (hb4.mono HB3.out.size))
      clear hb4 HB3
      go_wp2
      refine wp_loop_rounds 1 ?_
      rw [rounds_succ]
      go_wp2
      go_ret
      exact LP.mk HB4.out
    · have HB2 := hideP hb2
      have HCe := hideP hcell
      clear hb2 HN HC hcell
      go_wp2_with fail
      refine (zz9_any o g off cap2 L w2 (by omega) (by omega) hl hpos' hc2 hcm2 hg HCe.out).mono ?_
      rintro e w3 ⟨v1, rfl, hown1, hb3⟩
      obtain ⟨q1, c1, rfl, hq1, hcl1⟩ := writes_open hown1 (cuts_pos hpos')
      have HC3 : Hid (∀ i, i < L.length → w3.cell? ⟨g, off + i, none⟩ = some (.int .u8 (L.getD i 0).toNat)) := fun i hi => (hb3.cell (by exact hg)).trans (HCe.out i hi)
      have hg3 : g < w3.heap.size := Nat.lt_of_lt_of_le hg hb3.size
      have HB3 := hideP (HB2.out.trans (hb3.mono HB2.out.size))
      have HW1 := hideP hcl1
      clear hb3 HB2 hown1 hcl1 HCe
      go_wp2_with fail
      refine (zz9_any (o + k * 4096) g off cap2 L w3 (by omega) (by omega) hl hpos' hc2 hcm2 hg3 HC3.out).mono ?_
      rintro e w4 ⟨v2, rfl, hown2, hb4⟩
      rw [Plain.cuts_later] at hown2
      obtain ⟨q2, c2, rfl, hq2, hcl2⟩ := writes_open hown2 (cuts_pos hpos')
      have hTi := Plain.cuts_tiles o L
      generalize Plain.cuts o L = C at *
      have hCl := Plain.tiles_len _ _ _ hTi
      have HTi := hideP hTi
      have HC4 : Hid (∀ i, i < L.length → w4.cell? ⟨g, off + i, none⟩ = some (.int .u8 (L.getD i 0).toNat)) := fun i hi => (hb4.cell (by exact hg3)).trans (HC3.out i hi)
      have HB4 := hideP (HB3.out.trans (hb4.mono HB3.out.size))
      have HW2 := hideP hcl2
      have HW1' : Hid (∀ i p, C[i]? = some p → w4.cell? ⟨q1, i, none⟩ = some (wv g off cap2 p)) := fun i p hp => (hb4.cell (by exact hq1)).trans (HW1.out i p hp)
      clear hb4 HB3 hown2 hcl2 HC3 HW1 hTi
      go_wp2
      go_loopw [9, 10] (fun pv iv wr => ∃ i nq : Nat, i ≤ C.length ∧ iv = .int .i64 i ∧ pv = .int .i64 (Plain.at_ C i L.length) ∧ wr = w4.drewN nq) (fun _ iv _ => C.length - (intOf iv).toNat)
      case atStart => exact ⟨0, 0, Nat.zero_le _, rfl, by rw [Plain.at_zero _ _ HTi.out]; rfl, rfl⟩
      case round =>
        obtain ⟨i, nq, hi, rfl, rfl, rfl⟩ := hrel
        by_cases hlt : i < C.length
        · obtain ⟨⟨x, y⟩, hp⟩ : ∃ p, C[i]? = some p := ⟨C[i], List.getElem?_eq_getElem hlt⟩
          obtain ⟨t0, t1, t2, t3, t4⟩ := Plain.tiles_at _ _ _ _ HTi.out (x, y) hp
          have t1 : x < y := t1
          have t2 : y ≤ L.length := t2
          have t4 : Plain.at_ C i L.length = x := t4
          have HT3 : Hid (Plain.at_ C (i + 1) L.length = y) := t3
          have hx1 : w4.cell? ⟨q1, i, none⟩ = some (.slice (some ⟨g, off + x, none⟩) (y - x) (cap2 - x)) := HW1'.out i (x, y) hp
          have hx2 : w4.cell? ⟨q2, i, none⟩ = some (.slice (some ⟨g, off + x, none⟩) (y - x) (cap2 - x)) := HW2.out i (x, y) hp
          rw [t4]
          clear hp t3 t4 t0
          have hd1 : (((y - x : Nat) : Int) != ((y - x : Nat) : Int)) = false := by simp
          have hd2 : decide ((L.length : Int) - (x : Int) < ((y - x : Nat) : Int)) = false := by simp; omega
          go_wp2_with fail
          go_loopw [13] (fun jv wr => ∃ j nq : Nat, j ≤ y - x ∧ jv = .int .i64 j ∧ wr = w4.drewN nq) (fun jv _ => y - x - (intOf jv).toNat)
          case atStart => exact ⟨0, nq, Nat.zero_le _, rfl, rfl⟩
          case round =>
            obtain ⟨j, nq2, hj, rfl, rfl⟩ := hrel
            by_cases hjl : j < y - x
            · obtain ⟨t, ht⟩ : ∃ t, t = L.getD (x + j) 0 := ⟨_, rfl⟩
              have hz1 : w4.cell? ⟨g, off + (x + j), none⟩ = some (.int .u8 t.toNat) := by rw [ht]; exact HC4.out (x + j) (by omega)
              have hz2 : w4.cell? ⟨g, off + x + j, none⟩ = some (.int .u8 t.toNat) := by rw [Nat.add_assoc]; exact hz1
              have hd3 : ((t.toNat : Int) != (t.toNat : Int)) = false := by simp
              have hxj : (x : Int) + (j : Int) < (L.length : Int) := by omega
              have hxj2 : x + j < L.length := by omega
              have hjl2 : (j : Int) < ((y - x : Nat) : Int) := by omega
              clear ht
              go_wp2_with fail
              go_quiet (fail)
              go_wp2
              go_roundw
              case rel => exact ⟨j + 1, _, by omega, by go_num, rfl⟩
              case measure => simp [intOf]; omega
            · go_wp2
              go_roundw
              case rel => exact ⟨i + 1, nq2, by omega, by go_num, by rw [HT3.out]; go_num, rfl⟩
              case measure => simp [intOf]; omega
        · obtain rfl : i = C.length := by omega
          have he : Plain.at_ C C.length L.length = L.length := Plain.at_end _ _ _ (Nat.le_refl _)
          rw [he]
          clear he
          have hd1 : ((L.length : Int) == (L.length : Int)) = true := by simp
          go_wp2
          go_ret
          exact LP.mk (HB4.out.trans (below_drewN (Below.refl _ _) nq))

end Go.Proofs.Qxb6600400a
