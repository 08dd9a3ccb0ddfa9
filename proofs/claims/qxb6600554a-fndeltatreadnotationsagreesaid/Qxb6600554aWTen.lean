/-
  SEAT b6600554a: WALKS 10: 'zzTwo' (14), 'zzItoa' (13).
-/
import Derived.Test.Qxb6600554aWSix
namespace Go.Proofs.Qxb6600554a
open Go.RowKit
set_option linter.unusedVariables false

theorem u8_of (n : Nat) (h : n < 256) : ((UInt8.ofNat n).toNat : Int) = (n : Int) := by
  rw [UInt8.toNat_ofNat']
  omega

theorem two14 (v : Nat) (hv : v ≤ 99) (w : World) : Calls Try.prog 14 #[.int .i64 v] w fun e w' => e = .returned (.string ⟨#[UInt8.ofNat (48 + v / 10), UInt8.ofNat (48 + v % 10)]⟩) ∧ Below w.heap.size w w' := by
  have hcb := run_convert_bytes_back (P := Try.prog) (w.alloc (.cells #[.int .u8 (48 + (v : Int) / 10), .int .u8 (48 + (v : Int) % 10)] 5)) 58 9 5 ⟨w.heap.size, 0, none⟩ 2 [UInt8.ofNat (48 + v / 10), UInt8.ofNat (48 + v % 10)] Try.underlying58 Try.underlying5 Try.underlying9 (by
    intro j hj
    have h2 : j = 0 ∨ j = 1 := by simp at hj; omega
    rcases h2 with rfl | rfl
    · simp only [Addr.add, List.getElem_cons_zero, u8_of (48 + v / 10) (by omega)]
      go_simp
    · simp only [Addr.add, List.getElem_cons_succ, List.getElem_cons_zero, u8_of (48 + v % 10) (by omega)]
      go_simp)
  obtain ⟨x, hx⟩ : ∃ x, UInt8.ofNat (48 + v / 10) = x := ⟨_, rfl⟩
  obtain ⟨y, hy⟩ : ∃ y, UInt8.ofNat (48 + v % 10) = y := ⟨_, rfl⟩
  rw [hx, hy] at hcb ⊢
  clear hx hy
  have HCB := hideQ hcb
  clear hcb
  go_enter Try.func14, Try.ntmps14
  go_wp2
  erw [HCB.out]
  simp only [Result.andThen]
  rw [Oper.upon_value]
  go_wp2
  go_ret
  exact ⟨rfl, (Below.refl _ _).alloc (Nat.le_refl _) _⟩

/-- A number, written. -/
def Numl (v : Int) (l : List UInt8) : Prop := ∃ ds, l = (if v < 0 then 45 :: ds else ds) ∧ ds ≠ [] ∧ (∀ c ∈ ds, isDg c = true) ∧ val ds = v.natAbs ∧ ds.length ≤ 10 ∧ (v.natAbs ≤ 99 → ds.length ≤ 2)

/-- The buffer: from j on it holds ds. -/
def BufAt (w : World) (b j : Nat) (ds : List UInt8) : Prop := ∃ C : Array Value, w.heap[b]? = some (.cells C 57 (0, 0)) ∧ C.size = 21 ∧ ∀ t (ht : t < ds.length), C[j + t]? = some (.int .u8 ((ds[t]'ht).toNat : Int))

theorem BufAt.cell {w : World} {b j : Nat} {ds : List UInt8} (h : BufAt w b j ds) (i : Nat) (hi : i < 21) : (∃ x, w.cell? ⟨b, i, none⟩ = some x) ∧ w.frozen? ⟨b, i, none⟩ = false := by
  obtain ⟨C, h1, h2, h3⟩ := h
  refine ⟨⟨C[i]'(by omega), ?_⟩, frozen_of_row w b i _ 57 h1⟩
  rw [cell_of_row w b _ _ 57 (0, 0) h1]
  simp

theorem BufAt.read {w : World} {b j : Nat} {ds : List UInt8} (h : BufAt w b j ds) (t : Nat) (ht : t < ds.length) : w.cell? ⟨b, j + t, none⟩ = some (.int .u8 ((ds[t]'ht).toNat : Int)) := by
  obtain ⟨C, h1, h2, h3⟩ := h
  rw [cell_of_row w b _ _ 57 (0, 0) h1]
  exact h3 t ht

theorem BufAt.put {w : World} {b j : Nat} {ds : List UInt8} (h : BufAt w b (j + 1) ds) (hj : j < 21) (c : UInt8) : BufAt (w.setCell ⟨b, j, none⟩ (.int .u8 (c.toNat : Int))) b j (c :: ds) := by
  obtain ⟨C, h1, h2, h3⟩ := h
  refine ⟨C.setIfInBounds j (.int .u8 (c.toNat : Int)), heap_setCell_same w b j _ 57 _ h1, by simpa using h2, ?_⟩
  intro t ht
  cases t with
  | zero => simp [h2, hj]
  | succ t =>
    have := h3 t (by simpa using ht)
    rw [Array.getElem?_setIfInBounds_ne (by omega)]
    rw [show j + (t + 1) = j + 1 + t by omega, this]
    simp

def Z21 : Obj := .cells #[.int .u8 0, .int .u8 0, .int .u8 0, .int .u8 0, .int .u8 0, .int .u8 0, .int .u8 0, .int .u8 0, .int .u8 0, .int .u8 0, .int .u8 0, .int .u8 0, .int .u8 0, .int .u8 0, .int .u8 0, .int .u8 0, .int .u8 0, .int .u8 0, .int .u8 0, .int .u8 0, .int .u8 0] 57

theorem buf_new (w : World) : BufAt (w.alloc Z21) w.heap.size 21 [] := ⟨_, heap_alloc_new w _, rfl, fun t ht => absurd ht (by simp)⟩

/-- The loop's state. -/
def ItR (w : World) (v : Nat) (uv iv : Value) (wr : World) : Prop :=
  ∃ (x j : Nat) (ds : List UInt8), uv = .int .u64 x ∧ iv = .int .i64 j ∧ j + ds.length = 21 ∧ (∀ c ∈ ds, isDg c = true) ∧ valF x ds = v ∧ (ds = [] ∨ 10 ^ (ds.length - 1) ≤ v) ∧ BufAt wr w.heap.size j ds ∧ Below w.heap.size w wr

def ItP (v : Int) (w : World) (e : Ending) (w' : World) : Prop := ∃ s : ByteArray, e = .returned (.string s) ∧ Numl v s.data.toList ∧ Below w.heap.size w w'

set_option maxHeartbeats 1000000 in
theorem itoa_pos (v : Nat) (hv : 1 ≤ v) (hv2 : v ≤ 2147483647) (w : World) : Calls Try.prog 13 #[.int .i64 v] w (ItP v w) := by
  have hv0 : ((v : Int) == 0) = false := by simp; omega
  have hdn : decide ((v : Int) < 0) = false := decide_eq_false (by omega)
  go_enter Try.func13, Try.ntmps13
  go_wp2
  go_loopw [4, 6] (fun uv iv wr => ItR w v uv iv wr) (fun uv _ _ => (intOf uv).toNat)
  case atStart => exact ⟨v, 21, [], rfl, rfl, rfl, (fun c hc => by cases hc), rfl, .inl rfl, buf_new w, (Below.refl _ _).alloc (Nat.le_refl _) _⟩
  case round =>
    obtain ⟨x, j, ds, rfl, rfl, hj, hall, hval, hlen, hbuf, hbel⟩ := hrel
    have hxv : x ≤ v := by rw [← hval]; exact valF_le _ _
    by_cases hx : 0 < x
    · have hx' : (0 : Int) < (x : Int) := by omega
      have hpow : 10 ^ ds.length ≤ v := by
        have h1 := valF_ge ds x
        rw [hval] at h1
        refine Nat.le_trans ?_ h1
        exact Nat.le_mul_of_pos_left _ hx
      have hdl : ds.length ≤ 9 := by
        apply Nat.le_of_not_lt
        intro h
        have : 10 ^ 10 ≤ 10 ^ ds.length := Nat.pow_le_pow_right (by omega) h
        omega
      obtain ⟨j, rfl⟩ : ∃ j', j = j' + 1 := ⟨j - 1, by omega⟩
      obtain ⟨⟨x0, hc0⟩, hf0⟩ := hbuf.cell j (by omega)
      have hj21 : (j : Int) < 21 := by omega
      have HB := hideQ hbuf
      have HL := hideQ hbel
      have HA := hideQ hall
      have HV := hideQ hval
      have HP := hideQ hpow
      clear hbuf hbel hall hval hpow hlen
      go_wp2
      go_roundw
      case rel =>
        have e8 : ((UInt8.ofNat (48 + x % 10)).toNat : Int) = 48 + (x : Int) % 10 := by rw [u8_of _ (by omega)]; omega
        have hdg : isDg (UInt8.ofNat (48 + x % 10)) = true := dg_yes (by rw [e8]; omega) (by rw [e8]; omega)
        have hdig : dig (UInt8.ofNat (48 + x % 10)) = x % 10 := by unfold dig; rw [UInt8.toNat_ofNat']; omega
        refine ⟨x / 10, j, UInt8.ofNat (48 + x % 10) :: ds, rfl, rfl, by rw [List.length_cons]; omega, ?_, ?_, .inr ?_, ?_, HL.out.setCell (by exact Nat.le_refl _) _⟩
        · intro c hc
          rcases List.mem_cons.1 hc with rfl | hc
          · exact hdg
          · exact HA.out c hc
        · rw [valF_cons, hdig, show x / 10 * 10 + x % 10 = x by omega]
          exact HV.out
        · rw [List.length_cons, Nat.add_sub_cancel]
          exact HP.out
        · rw [← e8]
          exact HB.out.put (by omega) _
      case measure => simp [intOf]; omega
    · obtain rfl : x = 0 := by omega
      have hne : ds ≠ [] := by
        intro e
        rw [e] at hval
        have : (0 : Nat) = v := hval
        omega
      have hlen' : 10 ^ (ds.length - 1) ≤ v := by
        rcases hlen with h | h
        · exact absurd h hne
        · exact h
      have hl10 : ds.length ≤ 10 := by
        apply Nat.le_of_not_lt
        intro h
        have : 10 ^ 10 ≤ 10 ^ (ds.length - 1) := Nat.pow_le_pow_right (by omega) (by omega)
        omega
      have hl2 : v ≤ 99 → ds.length ≤ 2 := by
        intro h99
        apply Nat.le_of_not_lt
        intro h
        have : 10 ^ 2 ≤ 10 ^ (ds.length - 1) := Nat.pow_le_pow_right (by omega) (by omega)
        omega
      have HN : Hid (Numl v ds) := ⟨ds, by rw [if_neg (by omega)], hne, hall, hval, hl10, hl2⟩
      have hcb := run_convert_bytes_back (P := Try.prog) wr 58 9 5 ⟨w.heap.size, j, none⟩ ds.length ds Try.underlying58 Try.underlying5 Try.underlying9 (fun t ht => by
        have := hbuf.read t ht
        simp only [Addr.add]
        split
        · rename_i h0; subst h0; simpa using this
        · simpa using this)
      have HCB := hideQ hcb
      have HL := hideQ hbel
      have hpos : 0 < ds.length := by
        cases ds with
        | nil => exact absurd rfl hne
        | cons a l => simp
      rw [show ds.length = 21 - j by omega] at HCB
      have hj21 : (j : Int) ≤ 21 := by omega
      have hjn : ¬ 21 = j := by omega
      have hj0 : (0 : Int) ≤ (j : Int) := by omega
      clear hbuf hbel hall hval hlen hlen' hl10 hl2 hne hcb hx hpos
      go_wp2
      rw [HCB.out]
      simp only [Result.andThen]
      rw [Oper.upon_value]
      go_wp2
      go_ret
      exact ⟨_, rfl, HN.out, HL.out⟩

set_option maxHeartbeats 1000000 in
theorem itoa_neg (v : Nat) (hv : 1 ≤ v) (hv2 : v ≤ 2147483647) (w : World) : Calls Try.prog 13 #[.int .i64 (-(v : Int))] w (ItP (-(v : Int)) w) := by
  have hv0 : ((-(v : Int)) == 0) = false := by simp; omega
  have hv1 : -(v : Int) < 0 := by omega
  have hdn : decide (-(v : Int) < 0) = true := decide_eq_true hv1
  go_enter Try.func13, Try.ntmps13
  go_wp2
  go_loopw [4, 6] (fun uv iv wr => ItR w v uv iv wr) (fun uv _ _ => (intOf uv).toNat)
  case atStart => exact ⟨v, 21, [], congrArg (Value.int .u64) (by omega), rfl, rfl, (fun c hc => by cases hc), rfl, .inl rfl, buf_new w, (Below.refl _ _).alloc (Nat.le_refl _) _⟩
  case round =>
    obtain ⟨x, j, ds, rfl, rfl, hj, hall, hval, hlen, hbuf, hbel⟩ := hrel
    have hxv : x ≤ v := by rw [← hval]; exact valF_le _ _
    by_cases hx : 0 < x
    · have hx' : (0 : Int) < (x : Int) := by omega
      have hpow : 10 ^ ds.length ≤ v := by
        have h1 := valF_ge ds x
        rw [hval] at h1
        refine Nat.le_trans ?_ h1
        exact Nat.le_mul_of_pos_left _ hx
      have hdl : ds.length ≤ 9 := by
        apply Nat.le_of_not_lt
        intro h
        have : 10 ^ 10 ≤ 10 ^ ds.length := Nat.pow_le_pow_right (by omega) h
        omega
      obtain ⟨j, rfl⟩ : ∃ j', j = j' + 1 := ⟨j - 1, by omega⟩
      obtain ⟨⟨x0, hc0⟩, hf0⟩ := hbuf.cell j (by omega)
      have hj21 : (j : Int) < 21 := by omega
      have HB := hideQ hbuf
      have HL := hideQ hbel
      have HA := hideQ hall
      have HV := hideQ hval
      have HP := hideQ hpow
      clear hbuf hbel hall hval hpow hlen
      go_wp2
      go_roundw
      case rel =>
        have e8 : ((UInt8.ofNat (48 + x % 10)).toNat : Int) = 48 + (x : Int) % 10 := by rw [u8_of _ (by omega)]; omega
        have hdg : isDg (UInt8.ofNat (48 + x % 10)) = true := dg_yes (by rw [e8]; omega) (by rw [e8]; omega)
        have hdig : dig (UInt8.ofNat (48 + x % 10)) = x % 10 := by unfold dig; rw [UInt8.toNat_ofNat']; omega
        refine ⟨x / 10, j, UInt8.ofNat (48 + x % 10) :: ds, rfl, rfl, by rw [List.length_cons]; omega, ?_, ?_, .inr ?_, ?_, HL.out.setCell (by exact Nat.le_refl _) _⟩
        · intro c hc
          rcases List.mem_cons.1 hc with rfl | hc
          · exact hdg
          · exact HA.out c hc
        · rw [valF_cons, hdig, show x / 10 * 10 + x % 10 = x by omega]
          exact HV.out
        · rw [List.length_cons, Nat.add_sub_cancel]
          exact HP.out
        · rw [← e8]
          exact HB.out.put (by omega) _
      case measure => simp [intOf]; omega
    · obtain rfl : x = 0 := by omega
      have hne : ds ≠ [] := by
        intro e
        rw [e] at hval
        have : (0 : Nat) = v := hval
        omega
      have hlen' : 10 ^ (ds.length - 1) ≤ v := by
        rcases hlen with h | h
        · exact absurd h hne
        · exact h
      have hl10 : ds.length ≤ 10 := by
        apply Nat.le_of_not_lt
        intro h
        have : 10 ^ 10 ≤ 10 ^ (ds.length - 1) := Nat.pow_le_pow_right (by omega) (by omega)
        omega
      have hl2 : v ≤ 99 → ds.length ≤ 2 := by
        intro h99
        apply Nat.le_of_not_lt
        intro h
        have : 10 ^ 2 ≤ 10 ^ (ds.length - 1) := Nat.pow_le_pow_right (by omega) (by omega)
        omega
      have HN : Hid (Numl (-(v : Int)) (45 :: ds)) := ⟨ds, by rw [if_pos hv1], hne, hall, by rw [Int.natAbs_neg, Int.natAbs_natCast]; exact hval, hl10, by rw [Int.natAbs_neg, Int.natAbs_natCast]; exact hl2⟩
      have hpos : 0 < ds.length := by
        cases ds with
        | nil => exact absurd rfl hne
        | cons a l => simp
      obtain ⟨j, rfl⟩ : ∃ j', j = j' + 1 := ⟨j - 1, by omega⟩
      have hbuf2 : BufAt (wr.setCell ⟨w.heap.size, j, none⟩ (.int .u8 ((45 : UInt8).toNat : Int))) w.heap.size j (45 :: ds) := hbuf.put (by omega) 45
      have HL : Hid (Below w.heap.size w (wr.setCell ⟨w.heap.size, j, none⟩ (.int .u8 45))) := hbel.setCell (by exact Nat.le_refl _) _
      obtain ⟨⟨x0, hc0⟩, hf0⟩ := hbuf.cell j (by omega)
      have hcb := run_convert_bytes_back (P := Try.prog) (wr.setCell ⟨w.heap.size, j, none⟩ (.int .u8 45)) 58 9 5 ⟨w.heap.size, j, none⟩ (45 :: ds).length (45 :: ds) Try.underlying58 Try.underlying5 Try.underlying9 (fun t ht => by
        have := hbuf2.read t ht
        simp only [Addr.add]
        split
        · rename_i h0; subst h0; simpa using this
        · simpa using this)
      have HCB := hideQ hcb
      rw [show (45 :: ds).length = 21 - j by rw [List.length_cons]; omega] at HCB
      have hj21 : (j : Int) ≤ 21 := by omega
      have hj22 : (j : Int) < 21 := by omega
      have hjn : ¬ 21 = j := by omega
      have hj0 : (0 : Int) ≤ (j : Int) := by omega
      clear hbuf hbuf2 hbel hall hval hlen hlen' hl10 hl2 hne hcb hx hpos
      go_wp2
      rw [HCB.out]
      simp only [Result.andThen]
      rw [Oper.upon_value]
      go_wp2
      go_ret
      exact ⟨_, rfl, HN.out, HL.out⟩

theorem itoa_zero (w : World) : Calls Try.prog 13 #[.int .i64 0] w (ItP 0 w) := by
  go_enter Try.func13, Try.ntmps13
  go_wp2
  go_ret
  exact ⟨_, rfl, ⟨[48], rfl, by simp, by intro c hc; obtain rfl := List.mem_singleton.1 hc; rfl, rfl, by simp, fun _ => by simp⟩, Below.refl _ _⟩

theorem itoa13 (v : Int) (h1 : -2147483647 ≤ v) (h2 : v ≤ 2147483647) (w : World) : Calls Try.prog 13 #[.int .i64 v] w (ItP v w) := by
  by_cases hz : v = 0
  · subst hz; exact itoa_zero w
  by_cases hn : v < 0
  · obtain ⟨n, rfl⟩ : ∃ n : Nat, v = -(n : Int) := ⟨v.natAbs, by omega⟩
    exact itoa_neg n (by omega) (by omega) w
  · obtain ⟨n, rfl⟩ : ∃ n : Nat, v = (n : Int) := ⟨v.natAbs, by omega⟩
    exact itoa_pos n (by omega) (by omega) w

end Go.Proofs.Qxb6600554a
