/-
  SEAT b6600062a: WALKS 6: the law 'FnQuotedSizeIsTheShortestClosedPrefix' (11).
-/
import Derived.Test.Qxb6600062aWFive
import Derived.Laws.IdiomStrings
namespace Go.Proofs.Qxb6600062a
open Go.RowKit

def LP (w : World) (e : Ending) (w' : World) : Prop := e = .returned (.bool true) ∧ Below w.heap.size w w'
theorem LP.mk {w w' : World} (h : Below w.heap.size w w') : LP w (.returned (.bool true)) w' := ⟨rfl, h⟩

/-- A string's bytes, cut out of the row: what 'string(t[:r])' gives. -/
def strOf (l : List UInt8) : ByteArray := ⟨l.toArray⟩
theorem strOf_data (l : List UInt8) : (strOf l).data.toList = l := by simp [strOf]
theorem strOf_size (l : List UInt8) : (strOf l).size = l.length := by simp [strOf, ByteArray.size]

theorem zz30_plain (q : UInt8) (l : List UInt8) (w : World) (h : l.length ≤ 1048575) :
    Calls Try.prog 30 #[.string (strOf (q :: l)), .string ⟨#[]⟩, .slice none 0 0, .int .i64 0, .int .i64 0] w (QP (Plain.scan q l false 1) w) := by
  have hsz : (strOf (q :: l)).size = l.length + 1 := strOf_size _
  have hn : (⟨#[]⟩ : ByteArray).size = 0 := rfl
  have := zz30_any (strOf (q :: l)) 0 ⟨#[]⟩ none 0 [] 0 w (by omega) (Nat.zero_le _) (Nat.zero_le _) (Nat.zero_le _) (by rw [hsz, hn]; simp [sumSz]; omega) (.inl rfl)
  have e1 : ((strOf (q :: l)).extract (0 + 1) (strOf (q :: l)).size).data.toList = l := by
    rw [Lib.extract_data, strOf_data, List.take_of_length_le] <;> simp [strOf_size]
  have e2 : restFrom ⟨#[]⟩ [] 0 = [] := rfl
  rw [e1, e2, List.append_nil] at this
  exact this

/-- A row that owns bytes, at least one: its value, its cells. -/
theorem row_open {w : World} {base : Nat} {v : Value} {L : List UInt8} (h : w.ownsRow base 5 1 v L.length (byteV L)) (hp : 0 < L.length) :
    ∃ g cap, v = .slice (some ⟨g, 0, none⟩) L.length cap ∧ g < w.heap.size ∧ L.length ≤ cap ∧ cap ≤ maxLen ∧ ∀ j, j < L.length → w.cell? ⟨g, j, none⟩ = some (.int .u8 (L.getD j 0).toNat) := by
  rcases h.2 with ⟨rfl, h0⟩ | ⟨g, cap, cur, rfl, hb, hg, hnc, hcm, _, _⟩
  · omega
  · refine ⟨g, cap, rfl, (h.lt g rfl).2, hnc, hcm, fun j hj => ?_⟩
    rw [h.cellAt j (by omega), byteV, List.getElem?_map, List.getD_eq_getElem?_getD, List.getElem?_eq_getElem hj]
    rfl

theorem conv_any (g r cap : Nat) (L : List UInt8) (w : World) (hr : r ≤ L.length) (hc : ∀ j, j < L.length → w.cell? ⟨g, j, none⟩ = some (.int .u8 (L.getD j 0).toNat)) :
    (convert 33 9 (.slice (some ⟨g, 0, none⟩) r cap)).run Try.prog w = .ok (.string (strOf (L.take r))) w := by
  have hl : (L.take r).length = r := by simp; omega
  have := run_convert_bytes_back (P := Try.prog) w 33 9 5 ⟨g, 0, none⟩ cap (L.take r) Try.underlying33 Try.underlying5 Try.underlying9 (fun j hj => by
    have h1 := hc j (by omega)
    have h2 : (⟨g, 0, none⟩ : Addr).add j = ⟨g, j, none⟩ := by
      unfold Addr.add; split
      · next h => rw [h]
      · simp
    rw [h2, h1, List.getD_eq_getElem?_getD, List.getElem?_eq_getElem (by omega)]
    simp)
  rw [hl] at this
  exact this

set_option maxHeartbeats 1000000 in
theorem law11_any (s after : ByteArray) (a : Option Addr) (cap : Nat) (ss : List ByteArray) (taken i : Int) (w : World)
    (hs : s.size ≤ maxLen) (ha : after.size ≤ maxLen) (hcap : ss.length ≤ cap) (hcm : cap ≤ maxLen) (hsz : ∀ k, k < ss.length → (ss.getD k ByteArray.empty).size ≤ maxLen) (hc : StrSl w a ss) (hn : a = none → ss = []) :
    Calls Try.prog 11 #[.string s, .string after, .slice a ss.length cap, .int .i64 taken, .int .i64 i] w (LP w) := by
  have hlm : ss.length ≤ maxLen := Nat.le_trans hcap hcm
  have HZ := hideP (zz33_any s after a cap ss taken i w hs ha hlm hsz hc)
  have HC := hideP hc
  have HN := hideP hn
  unfold maxLen at hs ha hlm
  clear hsz hc hn
  by_cases h1 : s.size ≤ 1048576 ∧ after.size ≤ 1048576 ∧ ss.length ≤ 65536
  · obtain ⟨h1, h2, h3⟩ := h1
    go_enter Try.func11, Try.ntmps11
    go_wp2_with fail
    refine HZ.out.mono ?_
    rintro e w' ⟨b, rfl, rfl, hb⟩
    cases b with
    | false =>
      go_wp2
      go_ret
      exact LP.mk (Below.refl _ _)
    | true =>
      have hall := hb rfl
      have HBo := hideP (bytesOf_any s after a cap ss w' h1 h2 h3 hall HC.out)
      clear hb hall HZ
      go_wp2_with fail
      refine HBo.out.mono ?_
      rintro e w1 ⟨t, rfl, rfl, htot⟩
      clear HBo
      by_cases ht : 1048576 < t
      · clear htot
        go_wp2
        go_ret
        exact LP.mk (Below.refl _ _)
      have hto := htot (by omega)
      clear htot
      by_cases h4 : i < 0
      · go_wp2
        go_ret
        exact LP.mk (Below.refl _ _)
      by_cases h5 : (s.size : Int) ≤ i
      · go_wp2
        go_ret
        exact LP.mk (Below.refl _ _)
      by_cases h6 : taken < 0
      · go_wp2
        go_ret
        exact LP.mk (Below.refl _ _)
      by_cases h7 : (ss.length : Int) < taken
      · go_wp2
        go_ret
        exact LP.mk (Below.refl _ _)
      obtain ⟨n, rfl⟩ := Int.eq_ofNat_of_zero_le (Int.not_lt.1 h4)
      obtain ⟨m, rfl⟩ := Int.eq_ofNat_of_zero_le (Int.not_lt.1 h6)
      have h8 : n < s.size := by omega
      have h9 : m ≤ ss.length := by omega
      clear h4 h5 h6 h7
      go_wp2_with fail
      refine (clone_any a cap ss w1 HN.out h3 HC.out).mono ?_
      rintro e w2 ⟨a2, cap2, rfl, hc2, hcm2, hsl2, hb2⟩
      have HSL := hideP hsl2
      have HB2 := hideP hb2
      clear hsl2 hb2 HN HC
      go_wp2_with fail
      refine (restOf_any s n after a2 cap2 ss m w2 (by omega) h9 hto HSL.out).mono ?_
      rintro e w3 ⟨v, rfl, hown, hb3⟩
      obtain ⟨q, hq⟩ : ∃ q, s[n] = q := ⟨_, rfl⟩
      obtain ⟨l, hl⟩ : ∃ l, (s.extract (n + 1) s.size).data.toList ++ restFrom after ss m = l := ⟨_, rfl⟩
      have hLe : restTo s n after ss m (ss.length - m) = q :: l := by rw [restFrom_start s n after ss m h8, hq, hl]
      have hLl : (q :: l).length ≤ 1048576 := by rw [← hLe]; have := restTo_len s n after ss m (ss.length - m); omega
      rw [hLe] at hown
      obtain ⟨g, cap3, rfl, hg, hc3, hcm3, hcell⟩ := row_open hown (by simp)
      have HS3 := hideP (strSl_below HSL.out hb3)
      have HB3 := hideP (HB2.out.trans (hb3.mono HB2.out.size))
      have HQ := hideP hq
      have HL := hideP hl
      have HCe := hideP hcell
      clear hcell hown hb3 HSL HB2 hq hl hLe
      go_wp2_with fail
      refine (zz30_any s n after a2 cap2 ss m w3 h8 h9 hc2 hcm2 hto HS3.out).mono ?_
      rintro e w4 ⟨rfl, hb4⟩
      rw [HQ.out, HL.out]
      have hcell4 : ∀ j, j < (q :: l).length → w4.cell? ⟨g, j, none⟩ = some (.int .u8 ((q :: l).getD j 0).toNat) := fun j hj => (hb4.cell (by exact hg)).trans (HCe.out j hj)
      have HB4 := hideP (HB3.out.trans (hb4.mono HB3.out.size))
      have hg4 := hb4.size
      have HC4 := hideP hcell4
      clear HCe hb4 HB3 HS3 HQ HL hcell4
      rcases Plain.shortest q l with hR | ⟨k, hk1, hk2, hR, hkq, hk3, hk4⟩
      · rw [hR]
        go_wp2
        go_ret
        exact LP.mk HB4.out
      · rw [hR]
        have hc0 : w4.cell? ⟨g, 0, none⟩ = some (.int .u8 q.toNat) := HC4.out 0 (by simp)
        have hck : w4.cell? ⟨g, k, none⟩ = some (.int .u8 q.toNat) := by
          rw [HC4.out k (by simp; omega)]
          obtain ⟨k', rfl⟩ : ∃ k', k = k' + 1 := ⟨k - 1, by omega⟩
          simp only [Nat.add_sub_cancel] at hkq
          simp [hkq]
        have HK3 := hideP hk3
        have HK4 := hideP hk4
        have hll : l.length ≤ 1048575 := by simp at hLl; omega
        have hcap3 : k + 1 ≤ cap3 := by simp at hc3; omega
        have hcapm : cap3 ≤ 9223372036854775807 := hcm3
        have hLlen : ((q :: l).length : Int) = (l.length : Int) + 1 := by simp
        have HLL := hideP hLl
        clear hk3 hk4 hR hkq hLl hcm3 hc3
        have hqq : ((q.toNat : Int) != (q.toNat : Int)) = false := by simp
        have hd1 : decide ((k : Int) + 1 < 2) = false := by simp; omega
        have hd2 : decide (l.length < k) = false := by simp; omega
        have hwr : IntKind.i64.wrap (k : Int) = (k : Int) := IntWalk.i64_in _ ⟨by omega, by omega⟩
        have hkb : (k : Int) < (l.length : Int) + 1 := by omega
        have hkb2 : k < l.length + 1 := by omega
        have hkc : ((k : Int) + 1 - 1) = (k : Int) := by omega
        have hcv1 : ∀ nq, (convert 33 9 (.slice (some ⟨g, 0, none⟩) (k + 1) cap3)).run Try.prog (w4.drewN nq) = .ok (.string (strOf (q :: l.take k))) (w4.drewN nq) := fun nq => by
          have := conv_any g (k + 1) cap3 (q :: l) (w4.drewN nq) (by simp; omega) (by simpa using HC4.out)
          simpa using this
        go_wp2_with fail
        go_quiet (fail)
        go_wp2_with fail
        refine (zz30_plain q (l.take k) _ (by simp; omega)).mono ?_
        rintro e w5 ⟨rfl, hb5⟩
        rw [HK3.out]
        have hcv2 : (convert 33 9 (.slice (some ⟨g, 0, none⟩) k cap3)).run Try.prog w5 = .ok (.string (strOf (q :: l.take (k - 1)))) w5 := by
          have := conv_any g k cap3 (q :: l) w5 (by simp; omega) (fun j hj => by
            rw [hb5.cell (p := ⟨g, j, none⟩) (by exact Nat.lt_of_lt_of_le hg hg4)]; exact HC4.out j hj)
          rw [this]
          obtain ⟨k', rfl⟩ : ∃ k', k = k' + 1 := ⟨k - 1, by omega⟩
          simp
        have HB5 := hideP (HB4.out.trans ((below_drewN (Below.refl w1.heap.size w4) nq).trans (hb5.mono HB4.out.size)))
        clear hcv1 hb5 HB4 HK3 hck hc0
        have hre : (((k + 1 : Nat) : Int) == (k : Int) + 1) = true := by simp
        go_wp2_with fail
        refine (zz30_plain q (l.take (k - 1)) _ (by simp; omega)).mono ?_
        rintro e w6 ⟨rfl, hb6⟩
        rw [HK4.out]
        have HB6 := hideP (HB5.out.trans (hb6.mono HB5.out.size))
        clear hcv2 hb6 HB5 HK4
        go_wp2
        go_ret
        exact LP.mk HB6.out
  · have h1' : ¬ s.size ≤ 1048576 ∨ ¬ after.size ≤ 1048576 ∨ ¬ ss.length ≤ 65536 := by omega
    clear h1
    go_enter Try.func11, Try.ntmps11
    go_wp2_with fail
    refine HZ.out.mono ?_
    rintro e w' ⟨b, rfl, rfl, hb⟩
    clear HZ hb
    cases b with
    | false =>
      go_wp2
      go_ret
      exact LP.mk (Below.refl _ _)
    | true =>
      by_cases h1 : 1048576 < (s.size : Int)
      · go_wp2
        go_ret
        exact LP.mk (Below.refl _ _)
      by_cases h2 : 1048576 < (after.size : Int)
      · go_wp2
        go_ret
        exact LP.mk (Below.refl _ _)
      have h3 : 65536 < (ss.length : Int) := by omega
      clear h1'
      go_wp2
      go_ret
      exact LP.mk (Below.refl _ _)

end Go.Proofs.Qxb6600062a
