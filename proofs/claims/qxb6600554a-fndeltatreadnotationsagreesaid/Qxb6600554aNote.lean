/-
  SEAT b6600554a: THE PLAIN LAWS of the notations: what the law writes, and how it reads.
-/
import Derived.Test.Qxb6600554aWTwelve
import Derived.Test.Qxb6600554aWTen
namespace Go.Proofs.Qxb6600554a
open Go.RowKit
set_option linter.unusedVariables false

theorem tw_app (ds : List UInt8) (h : ∀ c ∈ ds, isDg c = true) (c : UInt8) (hc : isDg c = false) (r : List UInt8) : (ds ++ c :: r).takeWhile isDg = ds ∧ (ds ++ c :: r).dropWhile isDg = c :: r := by
  induction ds with
  | nil => simp [hc]
  | cons a ds ih =>
    have ha := h a (by simp)
    obtain ⟨i1, i2⟩ := ih (fun x hx => h x (by simp [hx]))
    rw [List.cons_append, List.takeWhile_cons, if_pos ha, List.dropWhile_cons, if_pos ha, i1, i2]
    exact ⟨rfl, rfl⟩
theorem tw_end (ds : List UInt8) (h : ∀ c ∈ ds, isDg c = true) : ds.takeWhile isDg = ds ∧ ds.dropWhile isDg = [] := by
  induction ds with
  | nil => exact ⟨rfl, rfl⟩
  | cons a ds ih =>
    have ha := h a (by simp)
    obtain ⟨i1, i2⟩ := ih (fun x hx => h x (by simp [hx]))
    rw [List.takeWhile_cons, if_pos ha, List.dropWhile_cons, if_pos ha, i1, i2]
    exact ⟨rfl, rfl⟩

theorem dg_not_sp {c : UInt8} (h : isDg c = true) : isSp c = false ∧ isSt c = false ∧ ¬ c = 45 := by
  have hr := dg_range h
  have hne : ∀ d : UInt8, d.toNat < 48 → ¬ c = d := by
    intro d hd e
    subst e
    omega
  have h1 := hne 32 (by decide)
  have h2 := hne 9 (by decide)
  have h3 := hne 10 (by decide)
  have h4 := hne 11 (by decide)
  have h5 := hne 12 (by decide)
  have h6 := hne 13 (by decide)
  have h7 := hne 45 (by decide)
  refine ⟨?_, ?_, h7⟩
  · unfold isSp; simp [h1, h2, h3, h4, h5, h6]
  · unfold isSt; simp [h1, h2, h3]

/-- A written number is no blank at its head. -/
theorem numl_head {v : Int} {l : List UInt8} (h : Numl v l) : ∃ a l', l = a :: l' ∧ isSp a = false ∧ isSt a = false := by
  obtain ⟨ds, rfl, hne, hall, _⟩ := h
  by_cases hv : v < 0
  · rw [if_pos hv]
    exact ⟨45, ds, rfl, rfl, rfl⟩
  · rw [if_neg hv]
    cases ds with
    | nil => exact absurd rfl hne
    | cons a ds =>
      have := dg_not_sp (hall a (by simp))
      exact ⟨a, ds, rfl, this.1, this.2.1⟩

theorem numS_numl {v : Int} {l : List UInt8} (h : Numl v l) (h1 : -2147483647 ≤ v) (h2 : v ≤ 2147483647) (c : UInt8) (hc : isDg c = false) (r : List UInt8) : numS (l ++ c :: r) = some (v, c :: r) := by
  obtain ⟨ds, rfl, hne, hall, hval, _⟩ := h
  obtain ⟨i1, i2⟩ := tw_app ds hall c hc r
  have hno : ¬ (ds = [] ∨ 2147483647 < val ds) := by
    rintro (h | h)
    · exact hne h
    · rw [hval] at h; omega
  by_cases hv : v < 0
  · rw [if_pos hv, List.cons_append]
    unfold numS
    rw [sign_cons, if_pos rfl]
    simp only [i1, i2]
    rw [if_neg hno, if_pos trivial, hval]
    congr 2
    omega
  · rw [if_neg hv]
    unfold numS
    have hs : sign (ds ++ c :: r) = (false, ds ++ c :: r) := by
      cases ds with
      | nil => exact absurd rfl hne
      | cons a ds =>
        rw [List.cons_append, sign_cons, if_neg (dg_not_sp (hall a (by simp))).2.2]
    rw [hs]
    simp only [i1, i2]
    rw [if_neg hno, if_neg (by simp), hval]
    congr 2
    omega

theorem num_numl {v : Int} {l : List UInt8} (h : Numl v l) (h1 : -2147483647 ≤ v) (h2 : v ≤ 2147483647) (c : UInt8) (hc : isDg c = false) (r : List UInt8) : num (l ++ c :: r) = some (v, c :: r) := by
  unfold num
  have hs : skipB (l ++ c :: r) = l ++ c :: r := by
    obtain ⟨a, l', rfl, _, ha⟩ := numl_head h
    rw [List.cons_append, skipB_cons, if_neg (by rw [ha]; simp)]
  rw [hs]
  exact numS_numl h h1 h2 c hc r

theorem num_blank {v : Int} {l : List UInt8} (h : Numl v l) (h1 : -2147483647 ≤ v) (h2 : v ≤ 2147483647) (c : UInt8) (hc : isDg c = false) (r : List UInt8) (b : UInt8) (hb : isSt b = true) : num (b :: (l ++ c :: r)) = some (v, c :: r) := by
  unfold num
  have hs : skipB (b :: (l ++ c :: r)) = l ++ c :: r := by
    obtain ⟨a, l', rfl, ha, _⟩ := numl_head h
    rw [skipB_cons, if_pos hb, List.cons_append, List.dropWhile_cons, if_neg (by rw [ha]; simp)]
  rw [hs]
  exact numS_numl h h1 h2 c hc r

theorem U_num (f k : Nat) (last : UInt8) (total : Int) (L : List UInt8) (n : Int) (u : UInt8) (r : List UInt8) (j : Nat) (hN : num L = some (n, u :: r)) (hu : rk u = some j) (hk : k ≤ j) :
    U wrap64 (f + 1) k last total L = U wrap64 f (j + 1) u (wrap64 (total + n * scl j)) r := by
  cases L with
  | nil => cases hN
  | cons c l' =>
    rw [U_cons']
    have hne : ¬ (isSt c = true ∧ skipB (c :: l') = []) := by
      rintro ⟨_, h⟩
      unfold num at hN
      rw [h] at hN
      cases hN
    rw [if_neg hne, hN]
    unfold Nx
    simp only [hu]
    rw [if_neg (by omega)]

theorem wrap_small (x : Int) (h1 : -9223372036854775808 ≤ x) (h2 : x ≤ 9223372036854775807) : wrap64 x = x := by
  unfold wrap64
  omega

/-- "..h..m..s" behind a day. -/
theorem U_hms {h m s : Int} {H M S : List UInt8} (hH : Numl h H) (hM : Numl m M) (hS : Numl s S) (h1 : 0 ≤ h) (h2 : h ≤ 99) (m1 : 0 ≤ m) (m2 : m ≤ 99) (s1 : 0 ≤ s) (s2 : s ≤ 99) (t : Int) (t1 : -200000000000000 ≤ t) (t2 : t ≤ 200000000000000) (f : Nat) (tl : List UInt8) :
    U wrap64 (f + 4) 0 100 t (H ++ 104 :: (M ++ 109 :: (S ++ 115 :: tl))) = U wrap64 (f + 1) 3 115 (t + h * 3600 + m * 60 + s) tl := by
  rw [U_num (f + 3) 0 100 t _ h 104 _ 0 (num_numl hH (by omega) (by omega) 104 rfl _) rfl (by omega)]
  rw [U_num (f + 2) 1 104 _ _ m 109 _ 1 (num_numl hM (by omega) (by omega) 109 rfl _) rfl (by omega)]
  rw [U_num (f + 1) 2 109 _ _ s 115 _ 2 (num_numl hS (by omega) (by omega) 115 rfl _) rfl (by omega)]
  have e0 : scl 0 = 3600 := rfl
  have e1 : scl 1 = 60 := rfl
  have e2 : scl 2 = 1 := rfl
  rw [e0, e1, e2, wrap_small (t + h * 3600) (by omega) (by omega), wrap_small (t + h * 3600 + m * 60) (by omega) (by omega), Int.mul_one, wrap_small _ (by omega) (by omega)]

/-- "..m..s" behind an hour. -/
theorem U_ms {m s : Int} {M S : List UInt8} (hM : Numl m M) (hS : Numl s S) (m1 : 0 ≤ m) (m2 : m ≤ 99) (s1 : 0 ≤ s) (s2 : s ≤ 99) (t : Int) (t1 : -200000000000000 ≤ t) (t2 : t ≤ 200000000000000) (f : Nat) (tl : List UInt8) :
    U wrap64 (f + 3) 1 104 t (M ++ 109 :: (S ++ 115 :: tl)) = U wrap64 (f + 1) 3 115 (t + m * 60 + s) tl := by
  rw [U_num (f + 2) 1 104 _ _ m 109 _ 1 (num_numl hM (by omega) (by omega) 109 rfl _) rfl (by omega)]
  rw [U_num (f + 1) 2 109 _ _ s 115 _ 2 (num_numl hS (by omega) (by omega) 115 rfl _) rfl (by omega)]
  have e1 : scl 1 = 60 := rfl
  have e2 : scl 2 = 1 := rfl
  rw [e1, e2, wrap_small (t + m * 60) (by omega) (by omega), Int.mul_one, wrap_small _ (by omega) (by omega)]

/-- " ..h<tab>..m " behind a day. -/
theorem U_hm {h m : Int} {H M : List UInt8} (hH : Numl h H) (hM : Numl m M) (h1 : 0 ≤ h) (h2 : h ≤ 99) (m1 : 0 ≤ m) (m2 : m ≤ 99) (t : Int) (t1 : -200000000000000 ≤ t) (t2 : t ≤ 200000000000000) (f : Nat) :
    U wrap64 (f + 3) 0 100 t (32 :: (H ++ 104 :: 9 :: (M ++ [109, 32]))) = (t + h * 3600 + m * 60, true) := by
  rw [U_num (f + 2) 0 100 t _ h 104 _ 0 (num_blank hH (by omega) (by omega) 104 rfl _ 32 rfl) rfl (by omega)]
  rw [U_num (f + 1) 1 104 _ _ m 109 _ 1 (num_blank hM (by omega) (by omega) 109 rfl [32] 9 rfl) rfl (by omega)]
  have e0 : scl 0 = 3600 := rfl
  have e1 : scl 1 = 60 := rfl
  rw [e0, e1, wrap_small (t + h * 3600) (by omega) (by omega), wrap_small _ (by omega) (by omega)]
  rfl

theorem U_nil (f k : Nat) (last : UInt8) (t : Int) : U wrap64 (f + 1) k last t [] = (t, true) := rfl
theorem U_sp (f k : Nat) (t : Int) : U wrap64 (f + 1) k 115 t [32] = (t, false) := rfl

/-! ### the clock -/

/-- One or two digits. -/
def Dig2 (v : Int) (l : List UInt8) : Prop := (∀ c ∈ l, isDg c = true) ∧ (l.length = 1 ∨ l.length = 2) ∧ (val l : Int) = v

theorem dig2_numl {v : Int} {l : List UInt8} (h : Numl v l) (h1 : 0 ≤ v) (h2 : v ≤ 99) : Dig2 v l := by
  obtain ⟨ds, rfl, hne, hall, hval, _, hl⟩ := h
  rw [if_neg (by omega)]
  have := hl (by omega)
  refine ⟨hall, ?_, by rw [hval]; omega⟩
  cases ds with
  | nil => exact absurd rfl hne
  | cons a ds => rw [List.length_cons] at *; omega

theorem dig2_two (v : Nat) (h : v ≤ 99) : Dig2 v [UInt8.ofNat (48 + v / 10), UInt8.ofNat (48 + v % 10)] := by
  have e1 : (UInt8.ofNat (48 + v / 10)).toNat = 48 + v / 10 := by rw [UInt8.toNat_ofNat']; omega
  have e2 : (UInt8.ofNat (48 + v % 10)).toNat = 48 + v % 10 := by rw [UInt8.toNat_ofNat']; omega
  refine ⟨?_, .inr rfl, ?_⟩
  · intro c hc
    rcases List.mem_cons.1 hc with rfl | hc
    · exact dg_yes (by rw [e1]; omega) (by rw [e1]; omega)
    · obtain rfl := List.mem_singleton.1 hc
      exact dg_yes (by rw [e2]; omega) (by rw [e2]; omega)
  · have : val [UInt8.ofNat (48 + v / 10), UInt8.ofNat (48 + v % 10)] = (0 * 10 + dig (UInt8.ofNat (48 + v / 10))) * 10 + dig (UInt8.ofNat (48 + v % 10)) := rfl
    rw [this]
    unfold dig
    rw [e1, e2]
    omega

theorem clk_more {v : Int} {l : List UInt8} (h : Dig2 v l) (f : Nat) (r : List UInt8) : clk (f + 1) (l ++ 58 :: r) = (clk f r).map (fun xs => v :: xs) := by
  obtain ⟨hall, hl, hv⟩ := h
  obtain ⟨i1, i2⟩ := tw_app l hall 58 rfl r
  rw [clk, i1, i2, if_pos hl]
  simp only [if_true, hv]
theorem clk_last {v : Int} {l : List UInt8} (h : Dig2 v l) (f : Nat) : clk (f + 1) l = some [v] := by
  obtain ⟨hall, hl, hv⟩ := h
  obtain ⟨i1, i2⟩ := tw_end l hall
  rw [clk, i1, i2, if_pos hl]
  simp only [hv]

theorem clk3 {x y z : Int} {X Y Z : List UInt8} (hX : Dig2 x X) (hY : Dig2 y Y) (hZ : Dig2 z Z) : clk 3 (X ++ 58 :: (Y ++ 58 :: Z)) = some [x, y, z] := by
  rw [clk_more hX, clk_more hY, clk_last hZ]
  rfl
theorem clk2 {x y : Int} {X Y : List UInt8} (hX : Dig2 x X) (hY : Dig2 y Y) : clk 3 (X ++ 58 :: Y) = some [x, y] := by
  rw [clk_more hX, clk_last hY]
  rfl

end Go.Proofs.Qxb6600554a
