/-
  SEAT b6600554a: WALKS 12: 'read' (31), ZZDeltatRead (11), at the texts that the law of the notations writes.
-/
import Derived.Test.Qxb6600554aWFour
import Derived.Test.Qxb6600554aWEleven
namespace Go.Proofs.Qxb6600554a
open Go.RowKit
set_option linter.unusedVariables false

theorem own_cells {w : World} {B : Nat} {v : Value} {T : List Int} (h : w.ownsRow B 2 1 v T.length (T.map iv)) (h0 : T ≠ []) :
    ∃ g cap, v = .slice (some ⟨g, 0, none⟩) T.length cap ∧ T.length ≤ cap ∧ ∀ i (hi : i < T.length), w.cell? ⟨g, i, none⟩ = some (.int .i64 (T[i]'hi)) := by
  obtain ⟨h1, ⟨h2, h3⟩ | ⟨g, cap, cur, g1, g2, g3, g4, g5, g6, g7⟩⟩ := h
  · exact absurd (List.eq_nil_of_length_eq_zero h3) h0
  · refine ⟨g, cap, g1, g4, fun i hi => ?_⟩
    rw [cell_of_row w g _ _ 2 (0, 0) g3]
    have h5 : (cur.toList.take (T.length * 1))[i]? = (T.map iv)[i]? := by rw [g7]
    rw [List.getElem?_take, if_pos (by omega), List.getElem?_map, List.getElem?_eq_getElem hi, Array.getElem?_toList] at h5
    exact h5

/-- Behind the number: the sign that stands there, and the rest. -/
theorem num_at (s : ByteArray) (n : Int) (c : UInt8) (r : List UInt8) (q : Nat) (hr : (c :: r).length ≤ s.size) (hq : q = s.size - (c :: r).length) (hdr : s.data.toList.drop q = c :: r) :
    ∃ hlt : q < s.size, s[q]'hlt = c ∧ s.data.toList.drop (q + 1) = r := by
  have hlt : q < s.size := by rw [List.length_cons] at hq hr; omega
  rw [drop_at s q hlt] at hdr
  exact ⟨hlt, (List.cons.inj hdr).1, (List.cons.inj hdr).2⟩


set_option maxRecDepth 100000 in
set_option maxHeartbeats 2000000 in
theorem read_d (b : Nat) (s : ByteArray) (n : Int) (r : List UInt8) (hN : num s.data.toList = some (n, 100 :: r)) (w : World) (hs : s.size ≤ 1048576) (h : DAt w b s 0) :
    Calls Try.prog 31 #[.pointer (some ⟨b, 0, none⟩)] w (UnP b (U wrap64 (s.size + 1) 0 100 (n * 86400) r) w) := by
  have HNu := hideQ (number_any b s 0 (by omega) w hs h)
  rw [List.drop_zero] at HNu
  obtain ⟨R, hR⟩ : ∃ R, U wrap64 (s.size + 1) 0 100 (n * 86400) r = R := ⟨_, rfl⟩
  rw [hR]
  have HR := hideQ hR
  clear hR
  go_enter Try.func31, Try.ntmps31
  go_wp2_with fail
  refine HNu.out.mono ?_
  rintro e w1 hP
  rcases hP with ⟨hn, _⟩ | ⟨n', r', hn, rfl, hr, hD1, hdr, hB1⟩
  · rw [hN] at hn; cases hn
  rw [hN] at hn
  cases hn
  obtain ⟨h1, h2⟩ := num_range hN
  obtain ⟨q, hq⟩ : ∃ q, q = s.size - (100 :: r).length := ⟨_, rfl⟩
  rw [← hq] at hD1 hdr
  obtain ⟨hlt, hc, hdr2⟩ := num_at s n 100 r q hr hq hdr
  have HX := hideQ (next_more b s q hlt w1 hs hD1)
  rw [hc] at HX
  have HB1 := hideQ hB1
  have HC := hideQ hc
  have HDR := hideQ hdr2
  clear hN hr hD1 hdr hB1 hc hdr2 hq HNu h
  go_wp2_with fail
  refine HX.out.mono ?_
  rintro e w2 ⟨rfl, hD2, hB2⟩
  have HB2 := hideQ (HB1.out.trans hB2)
  have HU := hideQ (units_any b s (q + 1) (by omega) (by omega) 0 (by omega) (n * 86400) w2 hs hD2)
  have hss : s[q + 1 - 1]'(by omega) = 100 := HC.out
  rw [hss, HDR.out, HR.out] at HU
  clear HX hD2 hB2 HB1 HC HDR hss HR
  go_wp2_with fail
  refine HU.out.mono ?_
  rintro e w3 ⟨rfl, hB3⟩
  have HB3 := hideQ (HB2.out.trans hB3)
  clear HU hB3 HB2
  go_wp2
  go_ret2
  exact ⟨rfl, HB3.out⟩

set_option maxRecDepth 100000 in
set_option maxHeartbeats 2000000 in
theorem read_h (b : Nat) (s : ByteArray) (n : Int) (r : List UInt8) (hN : num s.data.toList = some (n, 104 :: r)) (w : World) (hs : s.size ≤ 1048576) (h : DAt w b s 0) :
    Calls Try.prog 31 #[.pointer (some ⟨b, 0, none⟩)] w (UnP b (U wrap64 (s.size + 1) 1 104 (n * 3600) r) w) := by
  have HNu := hideQ (number_any b s 0 (by omega) w hs h)
  rw [List.drop_zero] at HNu
  obtain ⟨R, hR⟩ : ∃ R, U wrap64 (s.size + 1) 1 104 (n * 3600) r = R := ⟨_, rfl⟩
  rw [hR]
  have HR := hideQ hR
  clear hR
  go_enter Try.func31, Try.ntmps31
  go_wp2_with fail
  refine HNu.out.mono ?_
  rintro e w1 hP
  rcases hP with ⟨hn, _⟩ | ⟨n', r', hn, rfl, hr, hD1, hdr, hB1⟩
  · rw [hN] at hn; cases hn
  rw [hN] at hn
  cases hn
  obtain ⟨h1, h2⟩ := num_range hN
  obtain ⟨q, hq⟩ : ∃ q, q = s.size - (104 :: r).length := ⟨_, rfl⟩
  rw [← hq] at hD1 hdr
  obtain ⟨hlt, hc, hdr2⟩ := num_at s n 104 r q hr hq hdr
  have HX := hideQ (next_more b s q hlt w1 hs hD1)
  rw [hc] at HX
  have HB1 := hideQ hB1
  have HC := hideQ hc
  have HDR := hideQ hdr2
  clear hN hr hD1 hdr hB1 hc hdr2 hq HNu h
  go_wp2_with fail
  refine HX.out.mono ?_
  rintro e w2 ⟨rfl, hD2, hB2⟩
  have HB2 := hideQ (HB1.out.trans hB2)
  have HU := hideQ (units_any b s (q + 1) (by omega) (by omega) 1 (by omega) (n * 3600) w2 hs hD2)
  have hss : s[q + 1 - 1]'(by omega) = 104 := HC.out
  rw [hss, HDR.out, HR.out] at HU
  clear HX hD2 hB2 HB1 HC HDR hss HR
  go_wp2_with fail
  refine HU.out.mono ?_
  rintro e w3 ⟨rfl, hB3⟩
  have HB3 := hideQ (HB2.out.trans hB3)
  clear HU hB3 HB2
  go_wp2
  go_ret2
  exact ⟨rfl, HB3.out⟩

set_option maxRecDepth 100000 in
set_option maxHeartbeats 2000000 in
theorem read_dash (b : Nat) (s : ByteArray) (n : Int) (r : List UInt8) (hN : num s.data.toList = some (n, 45 :: r)) (f : Nat) (x y z : Int) (hk : clk f r = some [x, y, z]) (x1 : 0 ≤ x) (x2 : x ≤ 99) (y1 : 0 ≤ y) (y2 : y ≤ 99) (z1 : 0 ≤ z) (z2 : z ≤ 99) (w : World) (hs : s.size ≤ 1048576) (h : DAt w b s 0) :
    Calls Try.prog 31 #[.pointer (some ⟨b, 0, none⟩)] w (UnP b (n * 86400 + x * 3600 + y * 60 + z, true) w) := by
  have HNu := hideQ (number_any b s 0 (by omega) w hs h)
  rw [List.drop_zero] at HNu
  go_enter Try.func31, Try.ntmps31
  go_wp2_with fail
  refine HNu.out.mono ?_
  rintro e w1 hP
  rcases hP with ⟨hn, _⟩ | ⟨n', r', hn, rfl, hr, hD1, hdr, hB1⟩
  · rw [hN] at hn; cases hn
  rw [hN] at hn
  cases hn
  obtain ⟨h1, h2⟩ := num_range hN
  obtain ⟨q, hq⟩ : ∃ q, q = s.size - (45 :: r).length := ⟨_, rfl⟩
  rw [← hq] at hD1 hdr
  obtain ⟨hlt, hc, hdr2⟩ := num_at s n 45 r q hr hq hdr
  have HX := hideQ (next_more b s q hlt w1 hs hD1)
  rw [hc] at HX
  have HB1 := hideQ hB1
  have HK := hideQ hk
  rw [← hdr2] at HK
  clear hN hr hD1 hdr hB1 hc hdr2 hq HNu h hk
  go_wp2_with fail
  refine HX.out.mono ?_
  rintro e w2 ⟨rfl, hD2, hB2⟩
  have HB2 := hideQ (HB1.out.trans hB2)
  have HCl := hideQ (clock44 b s (q + 1) (by omega) f [x, y, z] HK.out w2 hs hD2)
  clear HX hD2 hB2 HB1 HK
  go_wp2_with fail
  refine HCl.out.mono ?_
  rintro e w3 ⟨v, rfl, hO3, hB3⟩
  have HB3 := hideQ (HB2.out.trans hB3)
  obtain ⟨g, cap, rfl, hcap, hcl⟩ := own_cells hO3 (by simp)
  have k0 : w3.cell? ⟨g, 0, none⟩ = some (.int .i64 x) := hcl 0 (by simp)
  have k1 : w3.cell? ⟨g, 1, none⟩ = some (.int .i64 y) := hcl 1 (by simp)
  have k2 : w3.cell? ⟨g, 2, none⟩ = some (.int .i64 z) := hcl 2 (by simp)
  clear HCl hB3 HB2 hO3 hcl hcap
  go_wp2
  go_quiet (fail)
  go_wp2
  go_ret2
  exact ⟨rfl, below_drewN HB3.out _⟩

set_option maxRecDepth 100000 in
set_option maxHeartbeats 2000000 in
theorem read_two (b : Nat) (s : ByteArray) (n : Int) (r : List UInt8) (hN : num s.data.toList = some (n, 58 :: r)) (f : Nat) (x y : Int) (hk : clk f r = some [x, y]) (x1 : 0 ≤ x) (x2 : x ≤ 99) (y1 : 0 ≤ y) (y2 : y ≤ 99) (w : World) (hs : s.size ≤ 1048576) (h : DAt w b s 0) :
    Calls Try.prog 31 #[.pointer (some ⟨b, 0, none⟩)] w (UnP b (n * 3600 + x * 60 + y, true) w) := by
  have HNu := hideQ (number_any b s 0 (by omega) w hs h)
  rw [List.drop_zero] at HNu
  go_enter Try.func31, Try.ntmps31
  go_wp2_with fail
  refine HNu.out.mono ?_
  rintro e w1 hP
  rcases hP with ⟨hn, _⟩ | ⟨n', r', hn, rfl, hr, hD1, hdr, hB1⟩
  · rw [hN] at hn; cases hn
  rw [hN] at hn
  cases hn
  obtain ⟨h1, h2⟩ := num_range hN
  obtain ⟨q, hq⟩ : ∃ q, q = s.size - (58 :: r).length := ⟨_, rfl⟩
  rw [← hq] at hD1 hdr
  obtain ⟨hlt, hc, hdr2⟩ := num_at s n 58 r q hr hq hdr
  have HX := hideQ (next_more b s q hlt w1 hs hD1)
  rw [hc] at HX
  have HB1 := hideQ hB1
  have HK := hideQ hk
  rw [← hdr2] at HK
  clear hN hr hD1 hdr hB1 hc hdr2 hq HNu h hk
  go_wp2_with fail
  refine HX.out.mono ?_
  rintro e w2 ⟨rfl, hD2, hB2⟩
  have HB2 := hideQ (HB1.out.trans hB2)
  have HCl := hideQ (clock44 b s (q + 1) (by omega) f [x, y] HK.out w2 hs hD2)
  clear HX hD2 hB2 HB1 HK
  go_wp2_with fail
  refine HCl.out.mono ?_
  rintro e w3 ⟨v, rfl, hO3, hB3⟩
  have HB3 := hideQ (HB2.out.trans hB3)
  obtain ⟨g, cap, rfl, hcap, hcl⟩ := own_cells hO3 (by simp)
  have k0 : w3.cell? ⟨g, 0, none⟩ = some (.int .i64 x) := hcl 0 (by simp)
  have k1 : w3.cell? ⟨g, 1, none⟩ = some (.int .i64 y) := hcl 1 (by simp)
  clear HCl hB3 HB2 hO3 hcl hcap
  go_wp2
  go_ret2
  exact ⟨rfl, HB3.out⟩

set_option maxRecDepth 100000 in
set_option maxHeartbeats 2000000 in
theorem read_one (b : Nat) (s : ByteArray) (n : Int) (r : List UInt8) (hN : num s.data.toList = some (n, 58 :: r)) (f : Nat) (x : Int) (hk : clk f r = some [x]) (x1 : 0 ≤ x) (x2 : x ≤ 99) (w : World) (hs : s.size ≤ 1048576) (h : DAt w b s 0) :
    Calls Try.prog 31 #[.pointer (some ⟨b, 0, none⟩)] w (UnP b (n * 3600 + x * 60, true) w) := by
  have HNu := hideQ (number_any b s 0 (by omega) w hs h)
  rw [List.drop_zero] at HNu
  go_enter Try.func31, Try.ntmps31
  go_wp2_with fail
  refine HNu.out.mono ?_
  rintro e w1 hP
  rcases hP with ⟨hn, _⟩ | ⟨n', r', hn, rfl, hr, hD1, hdr, hB1⟩
  · rw [hN] at hn; cases hn
  rw [hN] at hn
  cases hn
  obtain ⟨h1, h2⟩ := num_range hN
  obtain ⟨q, hq⟩ : ∃ q, q = s.size - (58 :: r).length := ⟨_, rfl⟩
  rw [← hq] at hD1 hdr
  obtain ⟨hlt, hc, hdr2⟩ := num_at s n 58 r q hr hq hdr
  have HX := hideQ (next_more b s q hlt w1 hs hD1)
  rw [hc] at HX
  have HB1 := hideQ hB1
  have HK := hideQ hk
  rw [← hdr2] at HK
  clear hN hr hD1 hdr hB1 hc hdr2 hq HNu h hk
  go_wp2_with fail
  refine HX.out.mono ?_
  rintro e w2 ⟨rfl, hD2, hB2⟩
  have HB2 := hideQ (HB1.out.trans hB2)
  have HCl := hideQ (clock44 b s (q + 1) (by omega) f [x] HK.out w2 hs hD2)
  clear HX hD2 hB2 HB1 HK
  go_wp2_with fail
  refine HCl.out.mono ?_
  rintro e w3 ⟨v, rfl, hO3, hB3⟩
  have HB3 := hideQ (HB2.out.trans hB3)
  obtain ⟨g, cap, rfl, hcap, hcl⟩ := own_cells hO3 (by simp)
  have k0 : w3.cell? ⟨g, 0, none⟩ = some (.int .i64 x) := hcl 0 (by simp)
  clear HCl hB3 HB2 hO3 hcl hcap
  go_wp2
  go_ret2
  exact ⟨rfl, HB3.out⟩

end Go.Proofs.Qxb6600554a
