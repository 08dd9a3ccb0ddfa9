/-
  SEAT b6600400a: WALKS 4: 'zzPageOf' (12), the law 'FnPageWritesCutsAreLineAlignedAndPageBound' (4).
-/
import Derived.Test.Qxb6600400aWThree
import Derived.Test.Qxb6600400aPlainTwo
namespace Go.Proofs.Qxb6600400a
open Go.RowKit
set_option linter.unusedVariables false

theorem pageOf_any (o x : Int) (w : World) (h1 : 0 ≤ o) (h2 : o ≤ 4611686018427387904) (h3 : 0 ≤ x) (h4 : x ≤ 1048576) :
    Calls Try.prog 12 #[.int .i64 o, .int .i64 x] w fun e w' => e = .returned (.int .i64 ((o + x) / 4096)) ∧ w' = w := by
  go_enter Try.func12, Try.ntmps12
  go_wp2
  go_ret
  exact ⟨rfl, rfl⟩

set_option maxRecDepth 100000 in
set_option maxHeartbeats 2000000 in
theorem law4_any (o : Int) (a : Option Addr) (cap : Nat) (L : List UInt8) (w : World) (hcap : L.length ≤ cap) (hcm : cap ≤ maxLen) (hc : Row w a L) (hn : a = none → L = []) :
    Calls Try.prog 4 #[.int .i64 o, .slice a L.length cap] w (LP w) := by
  have HZ := hideP (zz11_any o a L.length cap w (Nat.le_trans hcap hcm))
  have hlm : L.length ≤ maxLen := Nat.le_trans hcap hcm
  unfold maxLen at hlm
  have HC := hideP hc
  have HN := hideP hn
  clear hc hn
  by_cases h1 : 1048576 < (L.length : Int)
  · go_enter Try.func4, Try.ntmps4
    go_wp2_with fail
    refine HZ.out.mono ?_
    rintro e w' ⟨b, rfl, rfl⟩
    cases b with
    | false => go_wp2; go_ret; exact LP.mk (Below.refl _ _)
    | true => go_wp2; go_ret; exact LP.mk (Below.refl _ _)
  go_enter Try.func4, Try.ntmps4
  go_wp2_with fail
  refine HZ.out.mono ?_
  rintro e w1 ⟨b, rfl, rfl⟩
  clear HZ
  cases b with
  | false => go_wp2; go_ret; exact LP.mk (Below.refl _ _)
  | true =>
    by_cases h2 : o < 0
    · go_wp2; go_ret; exact LP.mk (Below.refl _ _)
    by_cases h3 : 4611686018427387904 < o
    · go_wp2; go_ret; exact LP.mk (Below.refl _ _)
    have hl : L.length ≤ 1048576 := by omega
    go_wp2_with fail
    refine (clone_any a cap L w1 HN.out hl HC.out).mono ?_
    rintro e w2 ⟨a2, cap2, rfl, hc2, hcm2, hrow, hb2⟩
    rcases hrow.cases with rfl | ⟨hpos', g, off, rfl, hg, hcell⟩
    · have HB2 := hideP hb2
      clear hb2 HN HC
      go_wp2_with fail
      refine (zz9_nil _ _ _ _).mono ?_
      rintro e w3 ⟨rfl, hb3⟩
      have HB4 := hideP (HB2.out.trans (hb3.mono HB2.out.size))
      clear hb3 HB2
      go_wp2
      refine wp_loop_rounds 1 ?_
      rw [rounds_succ]
      go_wp2
      go_ret
      exact LP.mk HB4.out
    · have HB2 := hideP hb2
      have HCe := hideP hcell
      clear hb2 HN HC hcell
      go_wp2_with fail
      refine (zz9_any o g off cap2 L w2 (by omega) (by omega) hl hpos' hc2 hcm2 hg HCe.out).mono ?_
      rintro e w3 ⟨v1, rfl, hown1, hb3⟩
      obtain ⟨q1, c1, rfl, hq1, hcl1⟩ := writes_open hown1 (cuts_pos hpos')
      have hTi := Plain.cuts_tiles o L
      have hGo := Plain.cuts_good o L
      generalize Plain.cuts o L = C at *
      have hCl := Plain.tiles_len _ _ _ hTi
      have HTi := hideP hTi
      have HGo := hideP hGo
      have HC3 : Hid (∀ i, i < L.length → w3.cell? ⟨g, off + i, none⟩ = some (.int .u8 (L.getD i 0).toNat)) := fun i hi => (hb3.cell (by exact hg)).trans (HCe.out i hi)
      have HB3 := hideP (HB2.out.trans (hb3.mono HB2.out.size))
      have HW1 := hideP hcl1
      clear hb3 HB2 hown1 hcl1 HCe hTi hGo
      go_wp2
      go_loopw [6, 7] (fun pv iv wr => ∃ i nq : Nat, i ≤ C.length ∧ iv = .int .i64 i ∧ pv = .int .i64 (Plain.at_ C i L.length) ∧ wr = w3.drewN nq) (fun _ iv _ => C.length - (intOf iv).toNat)
      case atStart => exact ⟨0, 0, Nat.zero_le _, rfl, by rw [Plain.at_zero _ _ HTi.out]; rfl, rfl⟩
      case round =>
        obtain ⟨i, nq, hi, rfl, rfl, rfl⟩ := hrel
        by_cases hlt : i < C.length
        · obtain ⟨⟨x, y⟩, hp⟩ : ∃ p, C[i]? = some p := ⟨C[i], List.getElem?_eq_getElem hlt⟩
          obtain ⟨t0, t1, t2, t3, t4⟩ := Plain.tiles_at _ _ _ _ HTi.out (x, y) hp
          have t1 : x < y := t1
          have t2 : y ≤ L.length := t2
          have t4 : Plain.at_ C i L.length = x := t4
          have HT3 : Hid (Plain.at_ C (i + 1) L.length = y) := t3
          have HG := hideP (Plain.good_at o L C i HGo.out x y hp)
          have HNx := hideP (Plain.tiles_next _ _ _ _ HTi.out x y hp)
          obtain ⟨m, rfl⟩ : ∃ m, y = x + (m + 1) := ⟨y - x - 1, by omega⟩
          have hx1 : w3.cell? ⟨q1, i, none⟩ = some (.slice (some ⟨g, off + x, none⟩) (m + 1) (cap2 - x)) := by
            rw [HW1.out i (x, x + (m + 1)) hp]; unfold wv; simp
          rw [t4]
          clear hp t3 t4 t0 t1
          have hd1 : ((m : Int) + 1 == 0) = false := by rw [beq_eq_false_iff_ne]; omega
          have hd2 : decide ((L.length : Int) - (x : Int) < (m : Int) + 1) = false := by simp; omega
          go_wp2_with fail
          go_loopw [9, 10] (fun bv jv wr => ∃ (b : Bool) (j nq : Nat), j ≤ m + 1 ∧ bv = .bool b ∧ jv = .int .i64 j ∧ wr = w3.drewN nq ∧ (b = true → ∃ j, x ≤ j ∧ j + 1 < x + (m + 1) ∧ L.getD j 0 = 10)) (fun _ jv _ => m + 1 - (intOf jv).toNat)
          case atStart => exact ⟨false, 0, nq, Nat.zero_le _, rfl, rfl, rfl, fun h => by cases h⟩
          case round =>
            obtain ⟨b, j, nq2, hj, rfl, rfl, rfl, hb⟩ := hrel
            have HBb := hideP hb
            clear hb
            by_cases hjl : j < m + 1
            · obtain ⟨t, ht⟩ : ∃ t, t = L.getD (x + j) 0 := ⟨_, rfl⟩
              have hz1 : w3.cell? ⟨g, off + (x + j), none⟩ = some (.int .u8 t.toNat) := by rw [ht]; exact HC3.out (x + j) (by omega)
              have hz2 : w3.cell? ⟨g, off + x + j, none⟩ = some (.int .u8 t.toNat) := by rw [Nat.add_assoc]; exact hz1
              have hd3 : ((t.toNat : Int) != (t.toNat : Int)) = false := by simp
              have hxj : (x : Int) + (j : Int) < (L.length : Int) := by omega
              have hxj2 : x + j < L.length := by omega
              have hjl2 : (j : Int) < (m : Int) + 1 := by omega
              have HTt := hideP ht
              clear ht
              by_cases hjm : j < m
              · by_cases h10 : t = 10
                · have h10' : ((t.toNat : Int) == 10) = true := by rw [h10]; rfl
                  have HQ : Hid (L.getD (x + j) 0 = 10) := by rw [← HTt.out]; exact h10
                  clear h10
                  go_wp2_with fail
                  go_quiet (fail)
                  go_wp2
                  go_roundw
                  case rel => exact ⟨true, j + 1, _, by omega, rfl, by go_num, rfl, fun _ => ⟨x + j, by omega, by omega, HQ.out⟩⟩
                  case measure => simp [intOf]; omega
                · have h10' : ((t.toNat : Int) == 10) = false := by
                    rw [beq_eq_false_iff_ne]; intro h; exact h10 (UInt8.toNat_inj.1 (by have : (10 : UInt8).toNat = 10 := rfl; omega))
                  clear h10
                  go_wp2_with fail
                  go_quiet (fail)
                  go_wp2
                  go_roundw
                  case rel => exact ⟨b, j + 1, _, by omega, rfl, by go_num, rfl, HBb.out⟩
                  case measure => simp [intOf]; omega
              · go_wp2_with fail
                go_quiet (fail)
                go_wp2
                go_roundw
                case rel => exact ⟨b, j + 1, _, by omega, rfl, by go_num, rfl, HBb.out⟩
                case measure => simp [intOf]; omega
            · have HPg : Hid (b = true → ((o + (x : Int)) / 4096 != (o + ((x : Int) + ((m : Int) + 1) - 1)) / 4096) = false) := fun h => by
                have := HG.out.2.1 (HBb.out h)
                unfold Plain.page at this
                rw [bne_eq_false_iff_eq, this]
                congr 1
                omega
              rcases HNx.out with ⟨hy, hcl⟩ | ⟨hy, hcl, z, hz, hyz, hzn⟩
              · have hy2 : L.length ≤ x + (m + 1) := by omega
                have hcl2 : C.length ≤ i + 1 := by omega
                clear hy hcl HNx
                cases b with
                | false =>
                  clear HPg HG HBb
                  go_wp2
                  go_roundw
                  case rel => exact ⟨i + 1, nq2, by omega, by go_num, by rw [HT3.out]; go_num, rfl⟩
                  case measure => simp [intOf]; omega

                | true =>
                  have hpg := HPg.out rfl
                  clear HPg HG HBb
                  go_wp2_with (go_at_call 12; refine (pageOf_any _ _ _ (by omega) (by omega) (by omega) (by omega)).mono ?_; rintro e w' ⟨rfl, rfl⟩)
                  go_roundw
                  case rel => exact ⟨i + 1, nq2, by omega, by go_num, by rw [HT3.out]; go_num, rfl⟩
                  case measure => simp [intOf]; omega

              · obtain ⟨r, rfl⟩ : ∃ r, z = x + (m + 1) + (r + 1) := ⟨z - (x + (m + 1)) - 1, by omega⟩
                have hx2 : w3.cell? ⟨q1, i + 1, none⟩ = some (.slice (some ⟨g, off + (x + (m + 1)), none⟩) (r + 1) (cap2 - (x + (m + 1)))) := by
                  rw [HW1.out (i + 1) _ hz]; unfold wv; simp
                have hz1 : w3.cell? ⟨g, off + x + m, none⟩ = some (.int .u8 10) := by
                  rw [Nat.add_assoc, HC3.out (x + m) (by omega)]
                  have := HG.out.1 hy
                  rw [show x + (m + 1) - 1 = x + m by omega] at this
                  rw [this]; rfl
                have hpn : ((o + (x : Int)) / 4096 == (o + ((x : Int) + ((m : Int) + 1) + ((r : Int) + 1) - 1)) / 4096) = false := by
                  have := HG.out.2.2 _ _ hz
                  unfold Plain.page at this
                  rw [beq_eq_false_iff_ne]
                  intro h
                  apply this
                  rw [h]
                  congr 1
                  omega
                clear hz HNx
                cases b with
                | false =>
                  clear HPg HG HBb
                  go_wp2_with (go_at_call 12; refine (pageOf_any _ _ _ (by omega) (by omega) (by omega) (by omega)).mono ?_; rintro e w' ⟨rfl, rfl⟩)
                  go_roundw
                  case rel => exact ⟨i + 1, nq2, by omega, by go_num, by rw [HT3.out]; go_num, rfl⟩
                  case measure => simp [intOf]; omega

                | true =>
                  have hpg := HPg.out rfl
                  clear HPg HG HBb
                  go_wp2_with (go_at_call 12; refine (pageOf_any _ _ _ (by omega) (by omega) (by omega) (by omega)).mono ?_; rintro e w' ⟨rfl, rfl⟩)
                  go_roundw
                  case rel => exact ⟨i + 1, nq2, by omega, by go_num, by rw [HT3.out]; go_num, rfl⟩
                  case measure => simp [intOf]; omega

        · obtain rfl : i = C.length := by omega
          have he : Plain.at_ C C.length L.length = L.length := Plain.at_end _ _ _ (Nat.le_refl _)
          rw [he]
          clear he
          have hd1 : ((L.length : Int) == (L.length : Int)) = true := by simp
          go_wp2
          go_ret
          exact LP.mk (HB3.out.trans (below_drewN (Below.refl _ _) nq))

end Go.Proofs.Qxb6600400a
