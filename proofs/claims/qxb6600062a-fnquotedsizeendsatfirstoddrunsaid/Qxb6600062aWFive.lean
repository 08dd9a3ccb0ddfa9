/-
  SEAT b6600062a: WALKS 5: 'ZZQuotedSize' (30), 'firstOddRunEnd' (32).
-/
import Derived.Test.Qxb6600062aWFour
namespace Go.Proofs.Qxb6600062a
open Go.RowKit

theorem strSl_below {w w' : World} {a : Option Addr} {ss : List ByteArray} (h : StrSl w a ss) (hb : Below w.heap.size w w') : StrSl w' a ss := by
  rcases h with h | ⟨b, off, h1, h2, h3⟩
  · exact .inl h
  · exact .inr ⟨b, off, h1, Nat.lt_of_lt_of_le h2 hb.size, fun i hi => (hb.cell (by exact h2)).trans (h3 i hi)⟩

theorem QP.up {R : Int} {w w1 : World} {e : Ending} {w' : World} (h : QP R w1 e w') (hb : Below w.heap.size w w1) : QP R w e w' := ⟨h.1, hb.trans (h.2.mono hb.size)⟩

set_option maxHeartbeats 1000000 in
theorem zz30_any (s : ByteArray) (i : Nat) (after : ByteArray) (a : Option Addr) (cap : Nat) (ss : List ByteArray) (t : Nat) (w : World)
    (hi : i < s.size) (ht : t ≤ ss.length) (hcap : ss.length ≤ cap) (hcm : cap ≤ maxLen) (htot : s.size + after.size + 16 * ss.length + sumSz ss ≤ 1048576) (hc : StrSl w a ss) :
    Calls Try.prog 30 #[.string s, .string after, .slice a ss.length cap, .int .i64 t, .int .i64 i] w (QP (Plain.scan s[i] ((s.extract (i + 1) s.size).data.toList ++ restFrom after ss t) false 1) w) := by
  obtain ⟨R, hR⟩ : ∃ R, Plain.scan s[i] ((s.extract (i + 1) s.size).data.toList ++ restFrom after ss t) false 1 = R := ⟨_, rfl⟩
  rw [hR]
  have HR := hideP hR
  have HC := hideP hc
  clear hR hc
  go_enter Try.func30, Try.ntmps30
  go_wp2_with fail
  refine (quoted_any s i after a cap ss t w.heap.size _ hi ht hcap hcm htot ?_ ?_ ?_ ?_ ?_).mono ?_
  · exact strSl_below HC.out ((Below.refl _ _).alloc (Nat.le_refl _) _)
  · rw [World.cell?_alloc_at _ _ _ _ rfl]; rfl
  · rw [World.cell?_alloc_at _ _ _ _ rfl]; rfl
  · rw [World.cell?_alloc_at _ _ _ _ rfl]; rfl
  · rw [World.cell?_alloc_at _ _ _ _ rfl]; rfl
  rintro e w' ⟨rfl, hb⟩
  rw [HR.out]
  have HB : Hid (Below w.heap.size w w') := (((Below.refl w.heap.size w).alloc (Nat.le_refl _) _).trans (hb.mono (by simp)))
  clear hb HR HC
  go_wp2
  go_ret
  exact QP.mk rfl HB.out

theorem ret_int64 {a b : Int} (h : a = b) : Ending.returned (.int .i64 a) = .returned (.int .i64 b) := by rw [h]

set_option maxHeartbeats 1000000 in
theorem odd_any (q : UInt8) (l : List UInt8) (g cap : Nat) (w : World) (hl : l.length ≤ 1048576)
    (hc : ∀ j, j < (q :: l).length → w.cell? ⟨g, j, none⟩ = some (.int .u8 ((q :: l).getD j 0).toNat)) :
    Calls Try.prog 32 #[.slice (some ⟨g, 0, none⟩) (q :: l).length cap] w fun e w' => e = .returned (.int .i64 (Plain.scan q l false 1)) ∧ w' = w := by
  obtain ⟨R, hR⟩ : ∃ R, Plain.scan q l false 1 = R := ⟨_, rfl⟩
  rw [hR]
  have hL : (q :: l).length = l.length + 1 := rfl
  obtain ⟨L, hLL⟩ : ∃ L, q :: l = L := ⟨_, rfl⟩
  have HR : Hid (Plain.scan q (L.drop 1) false 1 = R) := by rw [← hLL]; exact hR
  have hc0 : w.cell? ⟨g, 0, none⟩ = some (.int .u8 q.toNat) := hc 0 (by simp)
  rw [hLL] at hc hL ⊢
  have hpos : 0 < L.length := by omega
  have hbd : L.length ≤ 1048577 := by omega
  have HCC := hideP hc
  have HL := hideP hLL
  clear hR hc hLL hL hl
  go_enter Try.func32, Try.ntmps32
  go_wp2
  go_loop [4] (fun jv => ∃ j : Nat, jv = .int .i64 j ∧ 1 ≤ j ∧ j ≤ L.length ∧ Plain.scan q (L.drop j) false j = R) (fun jv => L.length - (intOf jv).toNat)
  case atStart => exact ⟨1, rfl, Nat.le_refl _, by omega, HR.out⟩
  case round =>
    obtain ⟨j, rfl, hj1, hj2, hsc⟩ := hrel
    clear HR
    have HSc := hideP hsc
    clear hsc
    by_cases hlt : j < L.length
    · obtain ⟨y, hy⟩ : ∃ y, y = L.getD j 0 := ⟨_, rfl⟩
      have hcx : w.cell? ⟨g, j, none⟩ = some (.int .u8 y.toNat) := by rw [hy]; exact HCC.out j hlt
      have hdrop : L.drop j = y :: L.drop (j + 1) := by
        rw [List.drop_eq_getElem_cons hlt, hy, List.getD_eq_getElem?_getD, List.getElem?_eq_getElem hlt]; rfl
      have HD := hideP hdrop
      have HY := hideP hy
      clear hy hdrop
      by_cases hyq : y = q
      · subst hyq
        have hne : ((y.toNat : Int) != (y.toNat : Int)) = false := by simp
        go_wp2
        go_loop [4, 5] (fun jv kv => ∃ k : Nat, jv = .int .i64 ((j + k : Nat) : Int) ∧ kv = .int .i64 k ∧ j + k ≤ L.length ∧ Plain.scan y (L.drop (j + k)) (k % 2 == 1) (j + k) = R) (fun jv _ => L.length - (intOf jv).toNat)
        case atStart => exact ⟨0, rfl, rfl, hj2, HSc.out⟩
        case round =>
          obtain ⟨k, rfl, rfl, hk, hsc2⟩ := hrel
          have HS2 := hideP hsc2
          clear hsc2 hcx hc0
          by_cases hlt2 : j + k < L.length
          · obtain ⟨z, hz⟩ : ∃ z, z = L.getD (j + k) 0 := ⟨_, rfl⟩
            have hcz : w.cell? ⟨g, j + k, none⟩ = some (.int .u8 z.toNat) := by rw [hz]; exact HCC.out (j + k) hlt2
            have hdrop : L.drop (j + k) = z :: L.drop (j + k + 1) := by
              rw [List.drop_eq_getElem_cons hlt2, hz, List.getD_eq_getElem?_getD, List.getElem?_eq_getElem hlt2]; rfl
            have HZ := hideP hz
            have HD2 := hideP hdrop
            clear hz hdrop
            by_cases hzq : z = y
            · subst hzq
              have heq : ((z.toNat : Int) == (z.toNat : Int)) = true := by simp
              go_wp2
              go_round
              case rel => exact ⟨k + 1, by go_num, by go_num, by omega, by
                have h1 := HS2.out
                rw [HD2.out] at h1
                rcases Nat.mod_two_eq_zero_or_one k with h2 | h2
                · have e1 : (k % 2 == 1) = false := by rw [h2]; rfl
                  have e2 : ((k + 1) % 2 == 1) = true := by rw [show (k + 1) % 2 = 1 by omega]; rfl
                  rw [e1, Plain.scan] at h1
                  rw [e2]
                  simpa [Nat.add_assoc] using h1
                · have e1 : (k % 2 == 1) = true := by rw [h2]; rfl
                  have e2 : ((k + 1) % 2 == 1) = false := by rw [show (k + 1) % 2 = 0 by omega]; rfl
                  rw [e1, Plain.scan, if_pos (by simp)] at h1
                  rw [e2]
                  exact h1⟩
              case measure => simp [intOf]; omega
            · have heq : ((z.toNat : Int) == (y.toNat : Int)) = false := by
                rw [beq_eq_false_iff_ne]; intro h; exact hzq (UInt8.toNat_inj.1 (by omega))
              have hkpos : 1 ≤ k := by
                exact Nat.pos_of_ne_zero (fun h0 => hzq (by have := HZ.out; rw [h0] at this; exact this.trans HY.out.symm))
              have HT : Hid ((k % 2 == 1) = true → ((j + k : Nat) : Int) = R) := by
                intro hp
                have h1 := HS2.out
                rw [hp, HD2.out, Plain.scan, if_neg (by simpa using hzq)] at h1
                exact h1
              rcases Nat.mod_two_eq_zero_or_one k with h2 | h2
              · have hp : ((k : Int) % 2 == 1) = false := by rw [beq_eq_false_iff_ne]; omega
                have HS3 : Hid (Plain.scan y (L.drop (j + k)) false (j + k) = R) := by have := HS2.out; rw [h2] at this; exact this
                clear HT HS2 h2
                go_wp2
                go_round
                case rel => exact ⟨j + k, by go_num, by omega, by omega, HS3.out⟩
                case measure => simp [intOf]; omega
              · have hp : ((k : Int) % 2 == 1) = true := by rw [beq_iff_eq]; omega
                have HS3 : Hid (((j + k : Nat) : Int) = R) := HT.out (by rw [h2]; rfl)
                clear HT HS2 h2
                go_wp2
                go_ret
                exact ⟨ret_int64 (by rw [← HS3.out]; omega), rfl⟩
          · have hkpos : 1 ≤ k := by
              omega
            have HT : Hid ((k % 2 == 1) = true → ((j + k : Nat) : Int) = R) := by
              intro hp
              have h1 := HS2.out
              rw [hp, List.drop_eq_nil_of_le (by omega), Plain.scan] at h1
              exact h1
            rcases Nat.mod_two_eq_zero_or_one k with h2 | h2
            · have hp : ((k : Int) % 2 == 1) = false := by rw [beq_eq_false_iff_ne]; omega
              have HS3 : Hid (Plain.scan y (L.drop (j + k)) false (j + k) = R) := by have := HS2.out; rw [h2] at this; exact this
              clear HT HS2 h2
              go_wp2
              go_round
              case rel => exact ⟨j + k, by go_num, by omega, by omega, HS3.out⟩
              case measure => simp [intOf]; omega
            · have hp : ((k : Int) % 2 == 1) = true := by rw [beq_iff_eq]; omega
              have HS3 : Hid (((j + k : Nat) : Int) = R) := HT.out (by rw [h2]; rfl)
              clear HT HS2 h2
              go_wp2
              go_ret
              exact ⟨ret_int64 (by rw [← HS3.out]; omega), rfl⟩
      · have hne : ((y.toNat : Int) != (q.toNat : Int)) = true := by
          rw [bne_iff_ne]; intro h; exact hyq (UInt8.toNat_inj.1 (by omega))
        go_wp2
        go_round
        case rel => exact ⟨j + 1, by go_num, by omega, by omega, by
          have h1 := HSc.out
          rw [HD.out, Plain.scan] at h1
          rw [show (y == q) = false by simpa using hyq] at h1
          exact h1⟩
        case measure => simp [intOf]; omega
    · go_wp2
      go_ret
      refine ⟨?_, rfl⟩
      have h1 := HSc.out
      rw [List.drop_eq_nil_of_le (by omega)] at h1
      rw [← h1]; rfl

end Go.Proofs.Qxb6600062a
