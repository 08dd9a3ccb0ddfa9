/-
  SEAT b6600554a: WALKS 6: the model's 'signedInt' (32).
-/
import Derived.Test.Qxb6600554aWFive
import Derived.Deep.CutRange
import Derived.Deep.CutBlock
namespace Go.Proofs.Qxb6600554a
open Go.RowKit
set_option linter.unusedVariables false

theorem valF_cons (n : Nat) (c : UInt8) (l : List UInt8) : valF n (c :: l) = valF (n * 10 + dig c) l := by
  unfold valF
  rw [List.foldl_cons]

theorem valF_ge : ∀ (l : List UInt8) (n : Nat), n * 10 ^ l.length ≤ valF n l
  | [], n => by show n * 1 ≤ n; omega
  | c :: l, n => by
    rw [valF_cons, List.length_cons, Nat.pow_succ]
    refine Nat.le_trans ?_ (valF_ge l _)
    rw [show n * (10 ^ l.length * 10) = (n * 10) * 10 ^ l.length by rw [Nat.mul_comm (10 ^ l.length) 10, Nat.mul_assoc]]
    exact Nat.mul_le_mul_right _ (by omega)

theorem valF_le (l : List UInt8) (n : Nat) : n ≤ valF n l := by
  refine Nat.le_trans ?_ (valF_ge l n)
  exact Nat.le_mul_of_pos_right n (Nat.pow_pos (by omega))

theorem valF_lt : ∀ (l : List UInt8) (n : Nat), (∀ c ∈ l, isDg c = true) → valF n l < (n + 1) * 10 ^ l.length
  | [], n, _ => by show n < (n + 1) * 1; omega
  | c :: l, n, h => by
    rw [valF_cons, List.length_cons, Nat.pow_succ]
    refine Nat.lt_of_lt_of_le (valF_lt l _ (fun x hx => h x (List.mem_cons_of_mem _ hx))) ?_
    rw [show (n + 1) * (10 ^ l.length * 10) = ((n + 1) * 10) * 10 ^ l.length by rw [Nat.mul_comm (10 ^ l.length) 10, Nat.mul_assoc]]
    refine Nat.mul_le_mul_right _ ?_
    have hc := h c (by simp)
    unfold isDg at hc
    simp at hc
    unfold dig
    omega

theorem tw_all (l : List UInt8) : ∀ c ∈ l.takeWhile isDg, isDg c = true := by
  induction l with
  | nil => intro c hc; cases hc
  | cons x l ih =>
    rw [List.takeWhile_cons]
    split
    · intro c hc
      rcases List.mem_cons.1 hc with rfl | hc
      · assumption
      · exact ih c hc
    · intro c hc; cases hc

/-- The digits at a place. -/
def dgs (s : ByteArray) (p : Nat) : List UInt8 := (s.data.toList.drop p).takeWhile isDg

theorem dgs_yes (s : ByteArray) (p : Nat) (hp : p < s.size) (h : isDg (s[p]'hp) = true) : dgs s p = s[p]'hp :: dgs s (p + 1) := by
  unfold dgs
  rw [drop_at s p hp, List.takeWhile_cons, if_pos h]
theorem dgs_no (s : ByteArray) (p : Nat) (hp : p < s.size) (h : isDg (s[p]'hp) = false) : dgs s p = [] := by
  unfold dgs
  rw [drop_at s p hp, List.takeWhile_cons, if_neg (by rw [h]; simp)]
theorem dgs_end (s : ByteArray) : dgs s s.size = [] := by
  unfold dgs
  rw [List.drop_of_length_le (by rw [size_toList]; omega)]
  rfl
theorem dgs_len (s : ByteArray) (p : Nat) (hp : p ≤ s.size) : p + (dgs s p).length ≤ s.size := by
  have := (List.takeWhile_sublist (p := isDg) (l := s.data.toList.drop p)).length_le
  rw [List.length_drop, size_toList] at this
  unfold dgs
  omega
/-- A digit within the run. -/
theorem dgs_in (s : ByteArray) (p : Nat) (h : 0 < (dgs s p).length) : ∃ hp : p < s.size, isDg (s[p]'hp) = true ∧ dgs s p = s[p]'hp :: dgs s (p + 1) := by
  by_cases hp : p < s.size
  · cases hd : isDg (s[p]'hp) with
    | true => exact ⟨hp, hd, dgs_yes s p hp hd⟩
    | false => rw [dgs_no s p hp hd] at h; cases h
  · unfold dgs at h
    rw [List.drop_of_length_le (by rw [size_toList]; omega)] at h
    cases h

theorem dg_range {c : UInt8} (h : isDg c = true) : 48 ≤ c.toNat ∧ c.toNat ≤ 57 := by
  unfold isDg at h
  simpa using h

theorem numS_eq (s : ByteArray) (i q : Nat) (ng : Bool) (h : sign (s.data.toList.drop i) = (ng, s.data.toList.drop q)) :
    ((dgs s q = [] ∨ 2147483647 < val (dgs s q)) → numS (s.data.toList.drop i) = none) ∧
    (¬ (dgs s q = [] ∨ 2147483647 < val (dgs s q)) → numS (s.data.toList.drop i) = some ((if ng = true then -(val (dgs s q) : Int) else (val (dgs s q) : Int)), s.data.toList.drop (q + (dgs s q).length))) := by
  unfold numS
  rw [h]
  have key : ∀ l : List UInt8, l.dropWhile isDg = l.drop (l.takeWhile isDg).length := by
    intro l
    induction l with
    | nil => rfl
    | cons c l ih =>
      rw [List.dropWhile_cons, List.takeWhile_cons]
      split
      · rw [List.length_cons, List.drop_succ_cons]; exact ih
      · rfl
  refine ⟨fun hc => by simp only; exact if_pos hc, fun hc => ?_⟩
  simp only
  rw [key, List.drop_drop]
  exact if_neg hc

def SgP (s : ByteArray) (l : List UInt8) (w : World) (e : Ending) (w' : World) : Prop :=
  w' = w ∧ ((numS l = none ∧ ∃ j : Int, e = .returned (.tuple #[.int .i64 0, .int .i64 j, .bool false])) ∨
    ∃ n r, numS l = some (n, r) ∧ r.length ≤ s.size ∧ e = .returned (.tuple #[.int .i64 n, .int .i64 ((s.size - r.length : Nat) : Int), .bool true]))

set_option maxHeartbeats 2000000 in
set_option maxRecDepth 100000 in
theorem signed32 (s : ByteArray) (i : Nat) (hi : i ≤ s.size) (hs : s.size ≤ 1048576) (w : World) : Calls Try.prog 32 #[.string s, .int .i64 i] w (SgP s (s.data.toList.drop i) w) := by
  -- the sign
  have hsg : ∃ (q : Nat) (ng : Bool), sign (s.data.toList.drop i) = (ng, s.data.toList.drop q) ∧ q ≤ s.size ∧ ((ng = true ∧ q = i + 1 ∧ ∃ h : i < s.size, s[i]'h = 45) ∨ (ng = false ∧ q = i ∧ ∀ h : i < s.size, ¬ s[i]'h = 45)) := by
    by_cases hlt : i < s.size
    · by_cases hm : s[i]'hlt = 45
      · exact ⟨i + 1, true, by rw [drop_at s i hlt, sign_cons, if_pos hm], by omega, .inl ⟨rfl, rfl, hlt, hm⟩⟩
      · exact ⟨i, false, by rw [drop_at s i hlt, sign_cons, if_neg hm], by omega, .inr ⟨rfl, rfl, fun _ => hm⟩⟩
    · refine ⟨i, false, ?_, by omega, .inr ⟨rfl, rfl, fun h => absurd h hlt⟩⟩
      rw [List.drop_of_length_le (by rw [size_toList]; omega)]
      rfl
  obtain ⟨q, ng, hsign, hq, hcase⟩ := hsg
  have HNE := hideQ (numS_eq s i q ng hsign)
  have hdl := dgs_len s q hq
  have hvl : val (dgs s q) < (0 + 1) * 10 ^ (dgs s q).length := valF_lt (dgs s q) 0 (tw_all _)
  clear hsign
  obtain ⟨m, hm⟩ : ∃ m, (dgs s q).length = m := ⟨_, rfl⟩
  obtain ⟨V, hV⟩ : ∃ V, val (dgs s q) = V := ⟨_, rfl⟩
  have HM := hideQ hm
  have HV := hideQ hV
  rw [hm] at hdl
  clear hvl hm hV
  have HCASE := hideQ hcase
  clear hcase
  go_enter Try.func32, Try.ntmps32
  go_upto_region 2 with fail
  go_cut [21] from 12 (fun c wx => c = .bool ng ∧ wx = w)
  case first =>
    rcases HCASE.out with ⟨rfl, rfl, hlt, hc⟩ | ⟨rfl, rfl, hc⟩
    · have hii : (i : Int) < (s.size : Int) := by omega
      have hd1 : decide ((i : Int) < (s.size : Int)) = true := decide_eq_true hii
      have hb : ((((s[i]'hlt).toNat : Nat) : Int) == 45) = true := by rw [hc]; rfl
      clear hc
      go_wp2
      go_meet
      exact ⟨rfl, rfl⟩
    · by_cases hlt : q < s.size
      · have hii : (q : Int) < (s.size : Int) := by omega
        have hd1 : decide ((q : Int) < (s.size : Int)) = true := decide_eq_true hii
        have hb : ((((s[q]'hlt).toNat : Nat) : Int) == 45) = false := b_ne' 45 (by omega) (hc hlt)
        clear hc
        go_wp2
        go_meet
        exact ⟨rfl, rfl⟩
      · have hii : ¬ (q : Int) < (s.size : Int) := by omega
        have hd1 : decide ((q : Int) < (s.size : Int)) = false := decide_eq_false hii
        clear hc
        go_wp2
        go_meet
        exact ⟨rfl, rfl⟩
  case rest =>
    obtain ⟨rfl, hwc⟩ := hcut
    have hwc := hwc.symm
    subst hwc
    go_upto_if 21 with fail
    go_cut [1, 7] from 12 (fun iv nv wx => iv = .int .i64 q ∧ nv = .bool ng ∧ wx = w)
    case first =>
      rcases HCASE.out with ⟨rfl, rfl, hlt, hc⟩ | ⟨rfl, rfl, hc⟩
      · clear hc
        go_wp2
        go_meet
        exact ⟨rfl, rfl, rfl⟩
      · clear hc
        go_wp2
        go_meet
        exact ⟨rfl, rfl, rfl⟩
    case rest =>
      obtain ⟨rfl, rfl, hwc⟩ := hcut
      have hwc := hwc.symm
      subst hwc
      clear HCASE
      obtain ⟨E, hE⟩ : ∃ E, q + m = E := ⟨_, rfl⟩
      rw [hE] at hdl
      go_upto_block 0 with fail
      go_cut [1] from 25 (fun iv wx => iv = .int .i64 (E : Int) ∧ wx = w)
      case first =>
        go_wp2_with fail
        go_loopw [1] (fun v wr => ∃ p : Nat, v = .int .i64 p ∧ p ≤ s.size ∧ p + (dgs s p).length = E ∧ wr = w) (fun v _ => s.size - (intOf v).toNat)
        case atStart => exact ⟨q, rfl, hq, by rw [HM.out]; exact hE, rfl⟩
        case round =>
          obtain ⟨p, rfl, hp, h1, hwr⟩ := hrel
          have hwr := hwr.symm
          subst hwr
          have H1 := hideQ h1
          clear h1
          by_cases hlp : p < s.size
          · have hpp : (p : Int) < (s.size : Int) := by omega
            have hd1 : decide ((p : Int) < (s.size : Int)) = true := decide_eq_true hpp
            have HC := hideQ (dg45 (s[p]'hlp) w)
            cases hdg : isDg (s[p]'hlp) with
            | true =>
              rw [hdg] at HC
              have HY := hideQ (dgs_yes s p hlp hdg)
              go_wp2_with (go_at_call 45; refine HC.out.mono ?_; rintro e w' ⟨rfl, rfl⟩)
              go_roundw
              case rel =>
                refine ⟨p + 1, rfl, hlp, ?_, trivial⟩
                have h1 := H1.out
                rw [HY.out, List.length_cons] at h1
                omega
              case measure => simp [intOf]; omega
            | false =>
              rw [hdg] at HC
              have HY := hideQ (dgs_no s p hlp hdg)
              go_wp2_with (go_at_call 45; refine HC.out.mono ?_; rintro e w' ⟨rfl, rfl⟩)
              go_meet
              refine ⟨?_, rfl⟩
              have h1 := H1.out
              rw [HY.out, List.length_nil] at h1
              rw [show E = p by omega]
          · obtain rfl : p = s.size := by omega
            go_wp2
            go_meet
            refine ⟨?_, rfl⟩
            have h1 := H1.out
            rw [dgs_end, List.length_nil] at h1
            rw [show E = s.size by omega]
      case rest =>
        obtain ⟨rfl, hwc⟩ := hcut
        have hwc := hwc.symm
        subst hwc
        by_cases hm0 : m = 0
        · have hEq : ((E : Int) == (q : Int)) = true := by simp; omega
          have HF := hideQ (HNE.out.1 (.inl (List.eq_nil_of_length_eq_zero (by rw [HM.out]; exact hm0))))
          clear HNE
          go_wp2
          go_ret3
          exact ⟨rfl, .inl ⟨HF.out, _, rfl⟩⟩
        · have hEq : ((E : Int) == (q : Int)) = false := by simp; omega
          go_upto_block 2 with fail
          go_cut [9] from 42 (fun sv wx => ∃ p : Nat, sv = .int .i64 p ∧ p + 1 ≤ E ∧ p + (dgs s p).length = E ∧ val (dgs s p) = V ∧ (p + 1 < E → ∃ hp : p < s.size, ¬ s[p]'hp = 48) ∧ wx = w)
          case first =>
            go_wp2_with fail
            go_loopw [9] (fun v wr => ∃ p : Nat, v = .int .i64 p ∧ p + 1 ≤ E ∧ p + (dgs s p).length = E ∧ val (dgs s p) = V ∧ wr = w) (fun v _ => s.size - (intOf v).toNat)
            case atStart => exact ⟨q, rfl, by omega, by rw [HM.out]; exact hE, HV.out, rfl⟩
            case round =>
              obtain ⟨p, rfl, hp, h1, h2, hwr⟩ := hrel
              have hwr := hwr.symm
              subst hwr
              have H1 := hideQ h1
              have H2 := hideQ h2
              clear h2
              obtain ⟨hlp, hdg, hdc⟩ := dgs_in s p (by omega)
              have HDC := hideQ hdc
              clear h1 hdc
              by_cases hlt : p + 1 < E
              · have hd1 : decide ((p : Int) < (E : Int) - 1) = true := decide_eq_true (by omega)
                have hpp : (p : Int) < (s.size : Int) := by omega
                have hlt' : (p : Int) < (E : Int) - 1 := by omega
                by_cases hz : s[p]'hlp = 48
                · have hb : ((((s[p]'hlp).toNat : Nat) : Int) == 48) = true := by rw [hz]; rfl
                  have HZ := hideQ hz
                  clear hz
                  go_wp2
                  go_roundw
                  case rel =>
                    have h1 := H1.out
                    have h2 := H2.out
                    rw [HDC.out, List.length_cons] at h1
                    rw [HDC.out, HZ.out] at h2
                    exact ⟨p + 1, rfl, by omega, by omega, h2, trivial⟩
                  case measure => simp [intOf]; omega
                · have hb : ((((s[p]'hlp).toNat : Nat) : Int) == 48) = false := b_ne' 48 (by omega) hz
                  have HZ := hideQ hz
                  clear hz
                  go_wp2
                  go_meet
                  exact ⟨p, rfl, hp, H1.out, H2.out, fun _ => ⟨hlp, HZ.out⟩, rfl⟩
              · have hd1 : decide ((p : Int) < (E : Int) - 1) = false := decide_eq_false (by omega)
                have hlt' : ¬ (p : Int) < (E : Int) - 1 := by omega
                go_wp2
                go_meet
                exact ⟨p, rfl, hp, H1.out, H2.out, fun h => absurd h hlt, rfl⟩
          case rest =>
            obtain ⟨p, rfl, hp, h1, h2, h3, hwc⟩ := hcut
            have hwc := hwc.symm
            subst hwc
            obtain ⟨hlp, hdg, hdc⟩ := dgs_in s p (by omega)
            by_cases hbig : 10 < (E : Int) - (p : Int)
            · have HF : Hid (numS (s.data.toList.drop i) = none) := by
                refine HNE.out.1 (.inr ?_)
                rw [HV.out, ← h2, hdc]
                obtain ⟨_, hz⟩ := h3 (by omega)
                have hdig : 1 ≤ dig (s[p]'hlp) := by
                  have h5 := dg_range hdg
                  unfold dig
                  have : (s[p]'hlp).toNat ≠ 48 := fun e => hz (UInt8.toNat_inj.1 e)
                  omega
                have h6 := valF_ge (dgs s (p + 1)) (dig (s[p]'hlp))
                have h7 : 10 ^ 10 ≤ 10 ^ (dgs s (p + 1)).length := Nat.pow_le_pow_right (by omega) (by rw [hdc, List.length_cons] at h1; omega)
                have h8 : 1 * 10 ^ (dgs s (p + 1)).length ≤ dig (s[p]'hlp) * 10 ^ (dgs s (p + 1)).length := Nat.mul_le_mul_right _ hdig
                show 2147483647 < valF 0 (s[p]'hlp :: dgs s (p + 1))
                rw [valF_cons, Nat.zero_mul, Nat.zero_add]
                generalize valF (dig (s[p]'hlp)) (dgs s (p + 1)) = X at h6 ⊢
                generalize dig (s[p]'hlp) * 10 ^ (dgs s (p + 1)).length = Y at h6 h8
                generalize 10 ^ (dgs s (p + 1)).length = Z at h7 h8
                omega
              clear h1 h2 h3 hdc HNE
              go_wp2
              go_ret3
              exact ⟨rfl, .inl ⟨HF.out, _, rfl⟩⟩
            · have hVb : V < 10000000000 := by
                have h5 : val (dgs s p) < (0 + 1) * 10 ^ (dgs s p).length := valF_lt (dgs s p) 0 (tw_all _)
                have h7 : 10 ^ (dgs s p).length ≤ 10 ^ 10 := Nat.pow_le_pow_right (by omega) (by omega)
                rw [h2, Nat.zero_add, Nat.one_mul] at h5
                generalize 10 ^ (dgs s p).length = Z at h5 h7
                omega
              have H1 := hideQ h1
              have H2 := hideQ h2
              clear h1 h2 h3 hdc
              go_wp2
              go_loopw [10, 11] (fun vv kv wr => ∃ x k : Nat, vv = .int .i64 x ∧ kv = .int .i64 k ∧ k + (dgs s k).length = E ∧ valF x (dgs s k) = V ∧ wr = w) (fun _ kv _ => s.size - (intOf kv).toNat)
              case atStart => exact ⟨0, p, rfl, rfl, H1.out, H2.out, rfl⟩
              case round =>
                obtain ⟨x, k, rfl, rfl, h1, h2, hwr⟩ := hrel
                have hwr := hwr.symm
                subst hwr
                have hxV : x ≤ V := by rw [← h2]; exact valF_le _ _
                by_cases hk : k < E
                · obtain ⟨hlk, hdk, hdc⟩ := dgs_in s k (by omega)
                  obtain ⟨r1, r2⟩ := dg_range hdk
                  have hkk : (k : Int) < (s.size : Int) := by omega
                  have hkE : (k : Int) < (E : Int) := by omega
                  have H3 := hideQ h1
                  have H4 := hideQ h2
                  have HDC := hideQ hdc
                  clear h1 h2 hdc
                  go_wp2
                  go_roundw
                  case rel =>
                    have h1 := H3.out
                    have h2 := H4.out
                    rw [HDC.out, List.length_cons] at h1
                    rw [HDC.out, valF_cons] at h2
                    refine ⟨x * 10 + dig (s[k]'hlk), k + 1, ?_, rfl, by omega, h2, trivial⟩
                    congr 1
                    unfold dig
                    omega
                  case measure => simp [intOf]; omega
                · have hkE : ¬ (k : Int) < (E : Int) := by omega
                  have hxx : x = V := by
                    rw [List.eq_nil_of_length_eq_zero (show (dgs s k).length = 0 by omega)] at h2
                    exact h2
                  subst hxx
                  clear h1 h2
                  by_cases hov : 2147483647 < (x : Int)
                  · have HF := hideQ (HNE.out.1 (.inr (by rw [HV.out]; omega)))
                    clear HNE
                    go_wp2
                    go_ret3
                    exact ⟨rfl, .inl ⟨HF.out, _, rfl⟩⟩
                  · have HF := hideQ (HNE.out.2 (fun h => by
                      rcases h with h | h
                      · have := HM.out; rw [h] at this; exact hm0 this.symm
                      · rw [HV.out] at h; omega))
                    rw [HV.out, HM.out, hE] at HF
                    clear HNE
                    have hle : s.size - (s.size - E) = E := by omega
                    cases ng with
                    | true =>
                      go_wp2
                      go_ret3
                      refine ⟨rfl, .inr ⟨_, _, HF.out, ?_, ?_⟩⟩
                      · rw [List.length_drop, size_toList]; omega
                      · rw [List.length_drop, size_toList, hle]; rfl
                    | false =>
                      go_wp2
                      go_ret3
                      refine ⟨rfl, .inr ⟨_, _, HF.out, ?_, ?_⟩⟩
                      · rw [List.length_drop, size_toList]; omega
                      · rw [List.length_drop, size_toList, hle]; rfl

end Go.Proofs.Qxb6600554a
