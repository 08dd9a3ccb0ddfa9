/-
  SEAT b6600062a: WALKS 7: the law 'FnQuotedSizeEndsAtFirstOddRun' (10).
-/
import Derived.Test.Qxb6600062aWSix
namespace Go.Proofs.Qxb6600062a
open Go.RowKit

set_option maxHeartbeats 1000000 in
theorem law10_any (s after : ByteArray) (a : Option Addr) (cap : Nat) (ss : List ByteArray) (taken i : Int) (w : World)
    (hs : s.size ≤ maxLen) (ha : after.size ≤ maxLen) (hcap : ss.length ≤ cap) (hcm : cap ≤ maxLen) (hsz : ∀ k, k < ss.length → (ss.getD k ByteArray.empty).size ≤ maxLen) (hc : StrSl w a ss) (hn : a = none → ss = []) :
    Calls Try.prog 10 #[.string s, .string after, .slice a ss.length cap, .int .i64 taken, .int .i64 i] w (LP w) := by
  have hlm : ss.length ≤ maxLen := Nat.le_trans hcap hcm
  have HZ := hideP (zz31_any s after a cap ss taken i w hs ha hlm hsz hc)
  have HC := hideP hc
  have HN := hideP hn
  unfold maxLen at hs ha hlm
  clear hsz hc hn
  by_cases h1 : s.size ≤ 1048576 ∧ after.size ≤ 1048576 ∧ ss.length ≤ 65536
  · obtain ⟨h1, h2, h3⟩ := h1
    go_enter Try.func10, Try.ntmps10
    go_wp2_with fail
    refine HZ.out.mono ?_
    rintro e w' ⟨b, rfl, rfl, hb⟩
    cases b with
    | false =>
      go_wp2
      go_ret
      exact LP.mk (Below.refl _ _)
    | true =>
      have hall := hb rfl
      have HBo := hideP (bytesOf_any s after a cap ss w' h1 h2 h3 hall HC.out)
      clear hb hall HZ
      go_wp2_with fail
      refine HBo.out.mono ?_
      rintro e w1 ⟨t, rfl, rfl, htot⟩
      clear HBo
      by_cases ht : 1048576 < t
      · clear htot
        go_wp2
        go_ret
        exact LP.mk (Below.refl _ _)
      have hto := htot (by omega)
      clear htot
      by_cases h4 : i < 0
      · go_wp2
        go_ret
        exact LP.mk (Below.refl _ _)
      by_cases h5 : (s.size : Int) ≤ i
      · go_wp2
        go_ret
        exact LP.mk (Below.refl _ _)
      by_cases h6 : taken < 0
      · go_wp2
        go_ret
        exact LP.mk (Below.refl _ _)
      by_cases h7 : (ss.length : Int) < taken
      · go_wp2
        go_ret
        exact LP.mk (Below.refl _ _)
      obtain ⟨n, rfl⟩ := Int.eq_ofNat_of_zero_le (Int.not_lt.1 h4)
      obtain ⟨m, rfl⟩ := Int.eq_ofNat_of_zero_le (Int.not_lt.1 h6)
      have h8 : n < s.size := by omega
      have h9 : m ≤ ss.length := by omega
      clear h4 h5 h6 h7
      go_wp2_with fail
      refine (clone_any a cap ss w1 HN.out h3 HC.out).mono ?_
      rintro e w2 ⟨a2, cap2, rfl, hc2, hcm2, hsl2, hb2⟩
      have HSL := hideP hsl2
      have HB2 := hideP hb2
      clear hsl2 hb2 HN HC
      go_wp2_with fail
      refine (restOf_any s n after a2 cap2 ss m w2 (by omega) h9 hto HSL.out).mono ?_
      rintro e w3 ⟨v, rfl, hown, hb3⟩
      obtain ⟨q, hq⟩ : ∃ q, s[n] = q := ⟨_, rfl⟩
      obtain ⟨l, hl⟩ : ∃ l, (s.extract (n + 1) s.size).data.toList ++ restFrom after ss m = l := ⟨_, rfl⟩
      have hLe : restTo s n after ss m (ss.length - m) = q :: l := by rw [restFrom_start s n after ss m h8, hq, hl]
      have hLl : (q :: l).length ≤ 1048576 := by rw [← hLe]; have := restTo_len s n after ss m (ss.length - m); omega
      rw [hLe] at hown
      obtain ⟨g, cap3, rfl, hg, hc3, hcm3, hcell⟩ := row_open hown (by simp)
      have HS3 := hideP (strSl_below HSL.out hb3)
      have HB3 := hideP (HB2.out.trans (hb3.mono HB2.out.size))
      have HQ := hideP hq
      have HL := hideP hl
      have HCe := hideP hcell
      clear hcell hown hb3 HSL HB2 hq hl hLe
      go_wp2_with fail
      refine (zz30_any s n after a2 cap2 ss m w3 h8 h9 hc2 hcm2 hto HS3.out).mono ?_
      rintro e w4 ⟨rfl, hb4⟩
      rw [HQ.out, HL.out]
      have hcell4 : ∀ j, j < (q :: l).length → w4.cell? ⟨g, j, none⟩ = some (.int .u8 ((q :: l).getD j 0).toNat) := fun j hj => (hb4.cell (by exact hg)).trans (HCe.out j hj)
      have HB4 := hideP (HB3.out.trans (hb4.mono HB3.out.size))
      have hg4 := hb4.size
      have HC4 := hideP hcell4
      clear HCe hb4 HB3 HS3 HQ HL hcell4
      go_wp2_with fail
      refine (odd_any q l g cap3 w4 (by simp at hLl; omega) HC4.out).mono ?_
      rintro e w5 ⟨rfl, rfl⟩
      have heq : (Plain.scan q l false 1 == Plain.scan q l false 1) = true := by simp
      generalize Plain.scan q l false 1 = R at *
      go_wp2
      go_ret
      exact LP.mk HB4.out
  · have h1' : ¬ s.size ≤ 1048576 ∨ ¬ after.size ≤ 1048576 ∨ ¬ ss.length ≤ 65536 := by omega
    clear h1
    go_enter Try.func10, Try.ntmps10
    go_wp2_with fail
    refine HZ.out.mono ?_
    rintro e w' ⟨b, rfl, rfl, hb⟩
    clear HZ hb
    cases b with
    | false =>
      go_wp2
      go_ret
      exact LP.mk (Below.refl _ _)
    | true =>
      by_cases h1 : 1048576 < (s.size : Int)
      · go_wp2
        go_ret
        exact LP.mk (Below.refl _ _)
      by_cases h2 : 1048576 < (after.size : Int)
      · go_wp2
        go_ret
        exact LP.mk (Below.refl _ _)
      have h3 : 65536 < (ss.length : Int) := by omega
      clear h1'
      go_wp2
      go_ret
      exact LP.mk (Below.refl _ _)

end Go.Proofs.Qxb6600062a
