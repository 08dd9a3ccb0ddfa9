/-
  SEAT b6600400a: WALKS 6: 'zzModelCuts' (8).
-/
import Derived.Test.Qxb6600400aWFive
namespace Go.Proofs.Qxb6600400a
open Go.RowKit
set_option linter.unusedVariables false

theorem IP.up {T W : List Nat} {w w1 w' : World} {v : Value} (hW : W = T) (h1 : w'.ownsRow w1.heap.size 3 1 v (W.map iv).length (W.map iv)) (h2 : Below w1.heap.size w1 w') (h3 : Below w.heap.size w w1) : IP T w (.returned v) w' :=
  IP.mk hW (own_mono h1 h3.size) (h3.trans (h2.mono h3.size))

set_option maxRecDepth 100000 in
set_option maxHeartbeats 4000000 in
theorem model_any (o : Int) (a : Option Addr) (cap : Nat) (L : List UInt8) (w : World) (ho : 0 ≤ o) (ho2 : o ≤ 4611686018427387904) (hl : L.length ≤ 1048576) (hc : Row w a L) :
    Calls Try.prog 8 #[.int .i64 o, .slice a L.length cap] w (IP (Plain.mc o L.length (Plain.ends L 0 false) 0 none) w) := by
  obtain ⟨i0, hi0, hz0, hz1, hz2⟩ := info_parts Try.info3
  have HLe := hideP (lineEnds_any a cap L w hl hc)
  have hEm := Plain.ends_mem L 0 false (fun h => by cases h)
  have hEl := Plain.ends_len L 0 false
  clear hc
  obtain ⟨T, hT⟩ : ∃ T, Plain.mc o L.length (Plain.ends L 0 false) 0 none = T := ⟨_, rfl⟩
  rw [hT]
  generalize Plain.ends L 0 false = E at *
  have HT0 := hideP hT
  have HEm := hideP hEm
  have hEl2 : E.length ≤ 1048576 := by simp at hEl; omega
  clear hT hEm hEl
  go_enter Try.func8, Try.ntmps8
  go_wp2_with fail
  refine HLe.out.mono ?_
  rintro e w1 ⟨v, rfl, hown, hb1⟩
  obtain ⟨ao, c, rfl, hcell⟩ := ints_open hown
  have HCl := hideP hcell
  have HB1 := hideP hb1
  clear hown hb1 hcell HLe
  go_wp2_with (at_make; refine wpList_make_own _ rfl _ _ 25 rfl w1.heap.size 3 i0 (.int .i64 0) 1 Try.underlying25 hi0 hz0 hz1 .i64 .i64 _ E.length rfl rfl rfl (by rw [hz2]; omega) (by unfold maxLen; omega) (Nat.le_refl _) ?_; intro w2 hown hgrow)
  have hbel : Below w1.heap.size w1 w2 := (Below.refl _ _).grown hgrow (Nat.le_refl _) (fun k hk => by cases hk)
  have HO : Hid (w2.ownsRow w1.heap.size 3 1 (.slice (some ⟨w1.heap.size, 0, none⟩) 0 E.length) (([] : List Nat).map iv).length (([] : List Nat).map iv)) := hown
  have HB := hideP hbel
  have hb2 := hbel.size
  clear hown hgrow hbel hi0 hz0 hz1 hz2
  go_wp2
  go_loopw [6, 7, 8, 9, 10] (fun cv ov gv sv kv wr => ∃ (k st : Nat) (op : Option Int) (g : Int) (W : List Nat), k ≤ E.length ∧ kv = .int .i64 k ∧ sv = .int .i64 st ∧ ov = .bool op.isSome ∧ gv = .int .i64 g ∧ (∀ g', op = some g' → g' = g) ∧ st ≤ L.length ∧ W.length ≤ 2 * k ∧
      W ++ Plain.mc o L.length (E.drop k) st op = T ∧ wr.ownsRow w1.heap.size 3 1 cv (W.map iv).length (W.map iv) ∧ Below w1.heap.size w1 wr ∧ w1.heap.size ≤ wr.heap.size) (fun _ _ _ _ kv _ => E.length - (intOf kv).toNat)
  case atStart => exact ⟨0, 0, none, 0, [], Nat.zero_le _, rfl, rfl, rfl, rfl, (fun g h => by cases h), Nat.zero_le _, Nat.le_refl _, HT0.out, HO.out, HB.out, hb2⟩
  case round =>
    obtain ⟨k, st, op, g, W, hk, rfl, rfl, rfl, rfl, hop, hst, hWk, hT, hown, hbr, hbs⟩ := hrel
    clear HO HB hb2 HT0
    have HO := hideP hown
    have HBr := hideP hbr
    have HT := hideP hT
    clear hown hT
    by_cases hlt : k < E.length
    · obtain ⟨q, rfl, hq1, hq2, hcl⟩ := HCl.out (by omega)
      obtain ⟨e, he⟩ : ∃ e, E[k]? = some e := ⟨E[k], List.getElem?_eq_getElem hlt⟩
      have hem := HEm.out e (List.mem_of_getElem? he)
      obtain ⟨d, rfl⟩ : ∃ d, e = d + 1 := ⟨e - 1, by omega⟩
      have hcx : wr.cell? ⟨q, k, none⟩ = some (.int .i64 ((d : Int) + 1)) := by
        rw [hbr.cell (by exact hq2), hcl k (d + 1) he]; simp
      have hcd : E.drop k = (d + 1) :: E.drop (k + 1) := by
        rw [List.drop_eq_getElem_cons hlt]
        congr 1
        have := List.getElem?_eq_getElem hlt
        rw [this] at he
        simpa using he
      have hdl : d + 1 ≤ L.length := by omega
      clear he hem hcl hbr HEm
      by_cases hpp : Plain.page o st = Plain.page o d
      · have hw1 : ((o + (st : Int)) / 4096 != (o + (d : Int)) / 4096) = false := by
          rw [bne_eq_false_iff_eq]; exact hpp
        cases op with
        | none =>
          have HT2 : Hid (W ++ Plain.mc o L.length (E.drop (k + 1)) (d + 1) (some (Plain.page o st)) = T) := by
            have := HT.out
            rw [hcd, Plain.mc, if_neg (by simpa using hpp)] at this
            exact this
          clear HT HCl hcd
          go_wp2_with (first | (go_at_call 12; refine (pageOf_any _ _ _ (by omega) (by omega) (by omega) (by omega)).mono ?_; rintro e w' ⟨rfl, rfl⟩))
          go_roundw
          case rel => exact ⟨k + 1, d + 1, some (Plain.page o st), (o + (st : Int)) / 4096, W, by omega, by go_num, by go_num, rfl, rfl, fun g h => by cases h; rfl, by omega, by (try simp only [List.length_append, List.length_cons, List.length_nil]); omega, HT2.out, HO.out, HBr.out, hbs⟩
          case measure => simp [intOf]; omega
        | some g0 =>
          obtain rfl := hop g0 rfl
          clear hop
          by_cases hpg : Plain.page o st = g0
          · have hw2 : ((o + (st : Int)) / 4096 != g0) = false := by rw [bne_eq_false_iff_eq]; exact hpg
            have HT2 : Hid (W ++ Plain.mc o L.length (E.drop (k + 1)) (d + 1) (some g0) = T) := by
              have := HT.out
              rw [hcd, Plain.mc, if_neg (by simpa using hpp), if_neg (by simpa using hpg)] at this
              exact this
            clear HT HCl hcd
            go_wp2_with (first | (go_at_call 12; refine (pageOf_any _ _ _ (by omega) (by omega) (by omega) (by omega)).mono ?_; rintro e w' ⟨rfl, rfl⟩))
            go_roundw
            case rel => exact ⟨k + 1, d + 1, some g0, g0, W, by omega, by go_num, by go_num, rfl, rfl, fun g' h => by cases h; rfl, by omega, by (try simp only [List.length_append, List.length_cons, List.length_nil]); omega, HT2.out, HO.out, HBr.out, hbs⟩
            case measure => simp [intOf]; omega
          · have hw2 : ((o + (st : Int)) / 4096 != g0) = true := by rw [bne_iff_ne]; exact hpg
            have HT2 : Hid ((W ++ [st]) ++ Plain.mc o L.length (E.drop (k + 1)) (d + 1) (some (Plain.page o st)) = T) := by
              have := HT.out
              rw [hcd, Plain.mc, if_neg (by simpa using hpp), if_pos (by simpa using hpg)] at this
              show _ = T; simpa using this
            clear HT HCl hcd
            go_wp2_with (first | (go_at_call 12; refine (pageOf_any _ _ _ (by omega) (by omega) (by omega) (by omega)).mono ?_; rintro e w' ⟨rfl, rfl⟩) | (at_builtin; refine wp_appI _ _ rfl (.tmp 56) (.tmp 58) rfl w1.heap.size _ (W) (st) ⟨_, 0, none⟩ rfl rfl (by rw [World.cell?_alloc_at _ _ _ _ rfl]; rfl) (World.ownsRow.alloc HO.out _) (Below.alloc HBr.out hbs _) (Nat.le_trans hbs (by simp)) (by (try simp only [List.length_append, List.length_cons, List.length_nil]); omega) ?_; intro v1 y1 hown1 hbel1 hbs1; have HO1 := hideP hown1; have HL1 := hideP hbel1; clear hown1 hbel1))
            go_roundw
            case rel => exact ⟨k + 1, d + 1, some (Plain.page o st), (o + (st : Int)) / 4096, W ++ [st], by omega, by go_num, by go_num, rfl, rfl, fun g h => by cases h; rfl, by omega, by (try simp only [List.length_append, List.length_cons, List.length_nil]); omega, HT2.out, HO1.out, HL1.out, hbs1⟩
            case measure => simp [intOf]; omega
      · have hw1 : ((o + (st : Int)) / 4096 != (o + (d : Int)) / 4096) = true := by
          rw [bne_iff_ne]; exact hpp
        cases op with
        | none =>
          have HT2 : Hid ((W ++ [d + 1]) ++ Plain.mc o L.length (E.drop (k + 1)) (d + 1) none = T) := by
            have := HT.out
            rw [hcd, Plain.mc, if_pos (by simpa using hpp)] at this
            show _ = T; simpa using this
          clear HT HCl hcd
          go_wp2_with (first | (go_at_call 12; refine (pageOf_any _ _ _ (by omega) (by omega) (by omega) (by omega)).mono ?_; rintro e w' ⟨rfl, rfl⟩) | (at_builtin; refine wp_appI _ _ rfl (.tmp 44) (.tmp 46) rfl w1.heap.size _ (W) (d + 1) ⟨_, 0, none⟩ rfl rfl (by rw [World.cell?_alloc_at _ _ _ _ rfl]; rfl) (World.ownsRow.alloc HO.out _) (Below.alloc HBr.out hbs _) (Nat.le_trans hbs (by simp)) (by (try simp only [List.length_append, List.length_cons, List.length_nil]); omega) ?_; intro v1 y1 hown1 hbel1 hbs1; have HO1 := hideP hown1; have HL1 := hideP hbel1; clear hown1 hbel1))
          go_roundw
          case rel => exact ⟨k + 1, d + 1, none, g, W ++ [d + 1], by omega, by go_num, by go_num, rfl, rfl, (fun g h => by cases h), by omega, by (try simp only [List.length_append, List.length_cons, List.length_nil]); omega, HT2.out, HO1.out, HL1.out, hbs1⟩
          case measure => simp [intOf]; omega
        | some g0 =>
          have HT2 : Hid ((W ++ [st] ++ [d + 1]) ++ Plain.mc o L.length (E.drop (k + 1)) (d + 1) none = T) := by
            have := HT.out
            rw [hcd, Plain.mc, if_pos (by simpa using hpp)] at this
            show _ = T; simpa using this
          clear HT HCl hcd
          go_wp2_with (first | (go_at_call 12; refine (pageOf_any _ _ _ (by omega) (by omega) (by omega) (by omega)).mono ?_; rintro e w' ⟨rfl, rfl⟩) | (at_builtin; refine wp_appI _ _ rfl (.tmp 40) (.tmp 42) rfl w1.heap.size _ (W) (st) ⟨_, 0, none⟩ rfl rfl (by rw [World.cell?_alloc_at _ _ _ _ rfl]; rfl) (World.ownsRow.alloc HO.out _) (Below.alloc HBr.out hbs _) (Nat.le_trans hbs (by simp)) (by (try simp only [List.length_append, List.length_cons, List.length_nil]); omega) ?_; intro v1 y1 hown1 hbel1 hbs1; have HO1 := hideP hown1; have HL1 := hideP hbel1; clear hown1 hbel1) | (at_builtin; refine wp_appI _ _ rfl (.tmp 44) (.tmp 46) rfl w1.heap.size _ (W ++ [st]) (d + 1) ⟨_, 0, none⟩ rfl rfl (by rw [World.cell?_alloc_at _ _ _ _ rfl]; rfl) (World.ownsRow.alloc HO1.out _) (Below.alloc HL1.out hbs1 _) (Nat.le_trans hbs1 (by simp)) (by (try simp only [List.length_append, List.length_cons, List.length_nil]); omega) ?_; intro v2 y2 hown2 hbel2 hbs2; have HO2 := hideP hown2; have HL2 := hideP hbel2; clear hown2 hbel2))
          go_roundw
          case rel => exact ⟨k + 1, d + 1, none, g, W ++ [st] ++ [d + 1], by omega, by go_num, by go_num, rfl, rfl, (fun g h => by cases h), by omega, by (try simp only [List.length_append, List.length_cons, List.length_nil]); omega, HT2.out, HO2.out, HL2.out, hbs2⟩
          case measure => simp [intOf]; omega
    · obtain rfl : k = E.length := by omega
      rw [List.drop_length] at HT
      clear HCl HEm
      cases op with
      | none =>
        have HT2 : Hid (W = T) := by have := HT.out; rw [Plain.mc, List.append_nil] at this; exact this
        clear HT
        go_wp2
        go_ret
        exact IP.up HT2.out HO.out HBr.out HB1.out
      | some g0 =>
        have HT2 : Hid (W ++ [L.length] = T) := by have := HT.out; rw [Plain.mc] at this; exact this
        clear HT
        go_wp2_with (at_builtin; refine wp_appI _ _ rfl (.tmp 63) (.tmp 66) rfl w1.heap.size _ (W) (L.length) ⟨_, 0, none⟩ rfl rfl (by rw [World.cell?_alloc_at _ _ _ _ rfl]; rfl) (World.ownsRow.alloc HO.out _) (Below.alloc HBr.out hbs _) (Nat.le_trans hbs (by simp)) (by (try simp only [List.length_append, List.length_cons, List.length_nil]); omega) ?_; intro v1 y1 hown1 hbel1 hbs1; have HO1 := hideP hown1; have HL1 := hideP hbel1; clear hown1 hbel1)
        go_ret
        exact IP.up HT2.out HO1.out HL1.out HB1.out

end Go.Proofs.Qxb6600400a
