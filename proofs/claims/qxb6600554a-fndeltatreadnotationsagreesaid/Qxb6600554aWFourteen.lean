/-
  SEAT b6600554a: WALKS 14: the law of the notations (4).
-/
import Derived.Test.Qxb6600554aWThirteen
namespace Go.Proofs.Qxb6600554a
open Go.RowKit
set_option linter.unusedVariables false

theorem below_step {w wi w' : World} (h : Below w.heap.size w wi) (h2 : Below wi.heap.size wi w') : Below w.heap.size w w' :=
  h.trans (h2.mono h.size)

theorem numl_size {v : Int} {x : ByteArray} (h : Numl v x.data.toList) : x.size ≤ 11 := by
  obtain ⟨ds, hl, _, _, _, h10, _⟩ := h
  rw [← size_toList, hl]
  split
  · rw [List.length_cons]; omega
  · omega

def TwP (v : Nat) (w : World) (e : Ending) (w' : World) : Prop := ∃ X : ByteArray, e = .returned (.string X) ∧ Dig2 v X.data.toList ∧ X.size = 2 ∧ Below w.heap.size w w'
theorem two_any (v : Nat) (hv : v ≤ 99) (w : World) : Calls Try.prog 14 #[.int .i64 v] w (TwP v w) := by
  refine (two14 v hv w).mono ?_
  rintro e w' ⟨rfl, hB⟩
  exact ⟨_, rfl, dig2_two v hv, rfl, hB⟩

theorem litsz (l : List UInt8) : (⟨l.toArray⟩ : ByteArray).size = l.length := by simp [ByteArray.size]
theorem cat (a b : ByteArray) : (a ++ b).data.toList = a.data.toList ++ b.data.toList := by simp

set_option maxRecDepth 100000 in
set_option maxHeartbeats 16000000 in
theorem law4 (d : Int) (h m s : Nat) (d1 : -2147483647 ≤ d) (d2 : d ≤ 2147483647) (h2 : h ≤ 99) (m2 : m ≤ 99) (s2 : s ≤ 99) (w : World) :
    Calls Try.prog 4 #[.int .i64 d, .int .i64 h, .int .i64 m, .int .i64 s] w fun e w' => e = .returned (.bool true) ∧ Below w.heap.size w w' := by
  go_enter Try.func4, Try.ntmps4
  go_wp2_with fail
  refine (itoa13 d d1 d2 _).mono ?_
  rintro e w1 ⟨D, rfl, hNx, hBx⟩
  have zD := numl_size hNx
  have HD := hideQ hNx
  have HB1 := hideQ hBx
  clear hBx hNx
  go_wp2_with fail
  refine (itoa13 h (by omega) (by omega) _).mono ?_
  rintro e w2 ⟨H1, rfl, hNx, hBx⟩
  have zH1 := numl_size hNx
  have HH1 := hideQ hNx
  have HB2 := hideQ (below_step HB1.out hBx)
  clear hBx HB1 hNx
  go_wp2_with fail
  refine (itoa13 m (by omega) (by omega) _).mono ?_
  rintro e w3 ⟨M1, rfl, hNx, hBx⟩
  have zM1 := numl_size hNx
  have HM1 := hideQ hNx
  have HB3 := hideQ (below_step HB2.out hBx)
  clear hBx HB2 hNx
  go_wp2_with fail
  refine (itoa13 s (by omega) (by omega) _).mono ?_
  rintro e w4 ⟨S1, rfl, hNx, hBx⟩
  have zS1 := numl_size hNx
  have HS1 := hideQ hNx
  have HB4 := hideQ (below_step HB3.out hBx)
  clear hBx HB3 hNx
  go_wp2_with fail
  refine (two_any h h2 _).mono ?_
  rintro e w5 ⟨X1, rfl, hNx, zX1, hBx⟩
  have HX1 := hideQ hNx
  have HB5 := hideQ (below_step HB4.out hBx)
  clear hBx HB4 hNx
  go_wp2_with fail
  refine (two_any m m2 _).mono ?_
  rintro e w6 ⟨Y1, rfl, hNx, zY1, hBx⟩
  have HY1 := hideQ hNx
  have HB6 := hideQ (below_step HB5.out hBx)
  clear hBx HB5 hNx
  go_wp2_with fail
  refine (two_any s s2 _).mono ?_
  rintro e w7 ⟨Z1, rfl, hNx, zZ1, hBx⟩
  have HZ1 := hideQ hNx
  have HB7 := hideQ (below_step HB6.out hBx)
  clear hBx HB6 hNx
  go_wp2_with fail
  refine (itoa13 h (by omega) (by omega) _).mono ?_
  rintro e w8 ⟨H2, rfl, hNx, hBx⟩
  have zH2 := numl_size hNx
  have HH2 := hideQ hNx
  have HB8 := hideQ (below_step HB7.out hBx)
  clear hBx HB7 hNx
  go_wp2_with fail
  refine (itoa13 m (by omega) (by omega) _).mono ?_
  rintro e w9 ⟨M2, rfl, hNx, hBx⟩
  have zM2 := numl_size hNx
  have HM2 := hideQ hNx
  have HB9 := hideQ (below_step HB8.out hBx)
  clear hBx HB8 hNx
  go_wp2_with fail
  refine (itoa13 s (by omega) (by omega) _).mono ?_
  rintro e w10 ⟨S2, rfl, hNx, hBx⟩
  have zS2 := numl_size hNx
  have HS2 := hideQ hNx
  have HB10 := hideQ (below_step HB9.out hBx)
  clear hBx HB9 hNx
  go_wp2_with fail
  refine (zz_units HH1.out HM1.out HS1.out d1 d2 (by omega) (by omega) (by omega) (by omega) (by omega) (by omega) _ (by simp only [ByteArray.size_append, litsz, List.length_cons, List.length_nil]; omega) [] (by simp only [cat, List.append_assoc, List.cons_append, List.nil_append]; exact num_numl HD.out d1 d2 100 rfl _) true (fun f x => U_nil f 3 115 x) _).mono ?_
  rintro e w11 ⟨rfl, hBx⟩
  have HB11 := hideQ (below_step HB10.out hBx)
  clear hBx HB10 
  go_wp2_with fail
  refine (zz_dash HX1.out HY1.out HZ1.out (by omega) (by omega) (by omega) (by omega) (by omega) (by omega) _ (by simp only [ByteArray.size_append, litsz, List.length_cons, List.length_nil]; omega) (by simp only [cat, List.append_assoc, List.cons_append, List.nil_append]; exact num_numl HD.out d1 d2 45 rfl _) _).mono ?_
  rintro e w12 ⟨rfl, hBx⟩
  have HB12 := hideQ (below_step HB11.out hBx)
  clear hBx HB11 
  go_wp2_with fail
  refine (zz_dash (dig2_numl HH2.out (by omega) (by omega)) (dig2_numl HM2.out (by omega) (by omega)) (dig2_numl HS2.out (by omega) (by omega)) (by omega) (by omega) (by omega) (by omega) (by omega) (by omega) _ (by simp only [ByteArray.size_append, litsz, List.length_cons, List.length_nil]; omega) (by simp only [cat, List.append_assoc, List.cons_append, List.nil_append]; exact num_numl HD.out d1 d2 45 rfl _) _).mono ?_
  rintro e w13 ⟨rfl, hBx⟩
  have HB13 := hideQ (below_step HB12.out hBx)
  clear hBx HB12 
  go_wp2_with fail
  refine (zz_units HH1.out HM1.out HS1.out d1 d2 (by omega) (by omega) (by omega) (by omega) (by omega) (by omega) _ (by simp only [ByteArray.size_append, litsz, List.length_cons, List.length_nil]; omega) [] (by simp only [cat, List.append_assoc, List.cons_append, List.nil_append]; exact num_blank HD.out d1 d2 100 rfl _ 32 rfl) true (fun f x => U_nil f 3 115 x) _).mono ?_
  rintro e w14 ⟨rfl, hBx⟩
  have HB14 := hideQ (below_step HB13.out hBx)
  clear hBx HB13 
  go_wp2_with fail
  refine (two_any m m2 _).mono ?_
  rintro e w15 ⟨Y3, rfl, hNx, zY3, hBx⟩
  have HY3 := hideQ hNx
  have HB15 := hideQ (below_step HB14.out hBx)
  clear hBx HB14 hNx
  go_wp2_with fail
  refine (two_any s s2 _).mono ?_
  rintro e w16 ⟨Z3, rfl, hNx, zZ3, hBx⟩
  have HZ3 := hideQ hNx
  have HB16 := hideQ (below_step HB15.out hBx)
  clear hBx HB15 hNx
  go_wp2_with fail
  refine (zz_two HY3.out HZ3.out (by omega) (by omega) (by omega) (by omega) _ (by simp only [ByteArray.size_append, litsz, List.length_cons, List.length_nil]; omega) (by simp only [cat, List.append_assoc, List.cons_append, List.nil_append]; exact num_numl HD.out d1 d2 58 rfl _) _).mono ?_
  rintro e w17 ⟨rfl, hBx⟩
  have HB17 := hideQ (below_step HB16.out hBx)
  clear hBx HB16 
  go_wp2_with fail
  refine (itoa13 m (by omega) (by omega) _).mono ?_
  rintro e w18 ⟨M4, rfl, hNx, hBx⟩
  have zM4 := numl_size hNx
  have HM4 := hideQ hNx
  have HB18 := hideQ (below_step HB17.out hBx)
  clear hBx HB17 hNx
  go_wp2_with fail
  refine (itoa13 s (by omega) (by omega) _).mono ?_
  rintro e w19 ⟨S4, rfl, hNx, hBx⟩
  have zS4 := numl_size hNx
  have HS4 := hideQ hNx
  have HB19 := hideQ (below_step HB18.out hBx)
  clear hBx HB18 hNx
  go_wp2_with fail
  refine (zz_ms HM4.out HS4.out d1 d2 (by omega) (by omega) (by omega) (by omega) _ (by simp only [ByteArray.size_append, litsz, List.length_cons, List.length_nil]; omega) (by simp only [cat, List.append_assoc, List.cons_append, List.nil_append]; exact num_numl HD.out d1 d2 104 rfl _) _).mono ?_
  rintro e w20 ⟨rfl, hBx⟩
  have HB20 := hideQ (below_step HB19.out hBx)
  clear hBx HB19 
  go_wp2_with fail
  refine (itoa13 h (by omega) (by omega) _).mono ?_
  rintro e w21 ⟨H5, rfl, hNx, hBx⟩
  have zH5 := numl_size hNx
  have HH5 := hideQ hNx
  have HB21 := hideQ (below_step HB20.out hBx)
  clear hBx HB20 hNx
  go_wp2_with fail
  refine (itoa13 m (by omega) (by omega) _).mono ?_
  rintro e w22 ⟨M5, rfl, hNx, hBx⟩
  have zM5 := numl_size hNx
  have HM5 := hideQ hNx
  have HB22 := hideQ (below_step HB21.out hBx)
  clear hBx HB21 hNx
  go_wp2_with fail
  refine (zz_hm HH5.out HM5.out d1 d2 (by omega) (by omega) (by omega) (by omega) _ (by simp only [ByteArray.size_append, litsz, List.length_cons, List.length_nil]; omega) (by simp only [cat, List.append_assoc, List.cons_append, List.nil_append]; exact num_numl HD.out d1 d2 100 rfl _) _).mono ?_
  rintro e w23 ⟨rfl, hBx⟩
  have HB23 := hideQ (below_step HB22.out hBx)
  clear hBx HB22 
  go_wp2_with fail
  refine (zz_units HH1.out HM1.out HS1.out d1 d2 (by omega) (by omega) (by omega) (by omega) (by omega) (by omega) _ (by simp only [ByteArray.size_append, litsz, List.length_cons, List.length_nil]; omega) [32] (by simp only [cat, List.append_assoc, List.cons_append, List.nil_append]; exact num_numl HD.out d1 d2 100 rfl _) false (fun f x => U_sp f 3 x) _).mono ?_
  rintro e w24 ⟨rfl, hBx⟩
  have HB24 := hideQ (below_step HB23.out hBx)
  clear hBx HB23 
  go_wp2_with fail
  refine (two_any m m2 _).mono ?_
  rintro e w25 ⟨Y6, rfl, hNx, zY6, hBx⟩
  have HY6 := hideQ hNx
  have HB25 := hideQ (below_step HB24.out hBx)
  clear hBx HB24 hNx
  go_wp2_with fail
  refine (zz_one HY6.out (by omega) (by omega) _ (by simp only [ByteArray.size_append, litsz, List.length_cons, List.length_nil]; omega) (by simp only [cat, List.append_assoc, List.cons_append, List.nil_append]; exact num_numl HD.out d1 d2 58 rfl _) _).mono ?_
  rintro e w26 ⟨rfl, hBx⟩
  have HB26 := hideQ (below_step HB25.out hBx)
  clear hBx HB25 
  go_wp2_with fail
  refine (zz_dash HX1.out HY1.out HZ1.out (by omega) (by omega) (by omega) (by omega) (by omega) (by omega) _ (by simp only [ByteArray.size_append, litsz, List.length_cons, List.length_nil]; omega) (by simp only [cat, List.append_assoc, List.cons_append, List.nil_append]; exact num_blank HD.out d1 d2 45 rfl _ 32 rfl) _).mono ?_
  rintro e w27 ⟨rfl, hBx⟩
  have HB27 := hideQ (below_step HB26.out hBx)
  clear hBx HB26 
  go_wp2_with fail
  refine (zz_dash (dig2_numl HH2.out (by omega) (by omega)) (dig2_numl HM2.out (by omega) (by omega)) (dig2_numl HS2.out (by omega) (by omega)) (by omega) (by omega) (by omega) (by omega) (by omega) (by omega) _ (by simp only [ByteArray.size_append, litsz, List.length_cons, List.length_nil]; omega) (by simp only [cat, List.append_assoc, List.cons_append, List.nil_append]; exact num_blank HD.out d1 d2 45 rfl _ 32 rfl) _).mono ?_
  rintro e w28 ⟨rfl, hBx⟩
  have HB28 := hideQ (below_step HB27.out hBx)
  clear hBx HB27 
  go_wp2
  go_ret
  exact ⟨rfl, HB28.out⟩

end Go.Proofs.Qxb6600554a
