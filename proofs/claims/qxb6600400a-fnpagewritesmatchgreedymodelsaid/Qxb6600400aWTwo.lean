/-
  SEAT b6600400a: WALKS 2: 'pageWrites' (15), 'ZZpageWrites' (9).
-/
import Derived.Test.Qxb6600400aWOne
namespace Go.Proofs.Qxb6600400a
open Go.RowKit
set_option linter.unusedVariables false

theorem Try.info22 : (Try.prog.info? 22).map (fun i => (i.zero, i.size, i.bytes)) = some (some (.slice none 0 0), 1, 24) := by kernel_rfl

/-- 'writes = append(writes, x)', writes a row of the call's own, x one slice, laid in a new block. -/
theorem wp_app (w0 w : World) {ops : Array Oper} {rest : List Oper} {o : Oper} {a : Act} {Q : Exit → Act → World → Prop} (hgd : o.guard = none) (sl x : Operand)
    (ho : o.op = .call { callee := .builtin .append, args := #[sl, x], argTypes := #[27, 27] }) (base : Nat) (v : Value) (xs : List Value) (y : Value) (ad : Addr) (hs : a.eval sl = v) (hx : a.eval x = .slice (some ad) 1 1)
    (hcell : w.cell? ad = some y) (h1c : y.oneCell' = true) (hown : w.ownsRow base 22 1 v xs.length xs) (hbel : Below base w0 w) (hbase : base ≤ w.heap.size) (hbd : xs.length ≤ 1099511627776)
    (h : ∀ v' w', w'.ownsRow base 22 1 v' (xs ++ [y]).length (xs ++ [y]) → Below base w0 w' → base ≤ w'.heap.size → wpList Try.prog ops Q rest (a.put o.dst v') w') : wpList Try.prog ops Q (o :: rest) a w := by
  obtain ⟨i0, hi0, hz0, hz1, hz2⟩ := info_parts Try.info22
  refine wpList_append_own w hgd sl x 27 ho base 22 i0 (.slice none 0 0) 1 24 Try.underlying27 hi0 hz0 hz1 hz2 rfl (by decide) v xs.length xs hs hown ad 1 1 [y] hx rfl ?_ ?_ ?_ ?_ hbase ?_
  · intro j u hj
    match j, hj with
    | 0, hj => simp at hj; subst hj; simpa [Addr.add] using hcell
  · intro u hu; simp at hu; subst hu; exact h1c
  · unfold maxLen; omega
  · omega
  · intro v' w' h1 h2 _
    exact h v' w' (by simpa using h1) (hbel.grown h2 hbase (fun k hk => (hown.lt k hk).1)) (Nat.le_trans hbase h2.size)

def wv (g off cap : Nat) (p : Nat × Nat) : Value := .slice (some ⟨g, off + p.1, none⟩) (p.2 - p.1) (cap - p.1)

theorem pw_stay {o : Int} {L : List UInt8} {f s e x : Nat} (hx : Plain.nxt L e = x) (he : e < L.length) (h1 : Plain.crosses o s x = false) : Plain.pw o L (f + 1) s e = Plain.pw o L f s x := by
  rw [Plain.pw, if_pos he, hx, if_neg (by rw [h1]; simp)]
theorem pw_two {o : Int} {L : List UInt8} {f s e x : Nat} (hx : Plain.nxt L e = x) (he : e < L.length) (h1 : Plain.crosses o s x = true) (hse : s < e) (h2 : Plain.crosses o e x = true) : Plain.pw o L (f + 1) s e = [(s, e), (e, x)] ++ Plain.pw o L f x x := by
  rw [Plain.pw, if_pos he, hx, if_pos h1, if_pos hse, if_pos h2]; rfl
theorem pw_one {o : Int} {L : List UInt8} {f s e x : Nat} (hx : Plain.nxt L e = x) (he : e < L.length) (h1 : Plain.crosses o s x = true) (hse : s < e) (h2 : Plain.crosses o e x = false) : Plain.pw o L (f + 1) s e = [(s, e)] ++ Plain.pw o L f e x := by
  rw [Plain.pw, if_pos he, hx, if_pos h1, if_pos hse, if_neg (by rw [h2]; simp)]
theorem pw_line {o : Int} {L : List UInt8} {f e x : Nat} (hx : Plain.nxt L e = x) (he : e < L.length) (h1 : Plain.crosses o e x = true) : Plain.pw o L (f + 1) e e = [(e, x)] ++ Plain.pw o L f x x := by
  rw [Plain.pw, if_pos he, hx, if_pos h1, if_neg (Nat.lt_irrefl _), if_pos h1]; rfl
theorem pw_end {o : Int} {L : List UInt8} {f s e : Nat} (he : ¬ e < L.length) : Plain.pw o L (f + 1) s e = if s < L.length then [(s, L.length)] else [] := by
  rw [Plain.pw, if_neg he]

theorem box_of {w w' : World} {o : Int} (h : Below (w.heap.size + 1) (w.alloc (.cells #[.int .i64 o] 2)) w') : w'.cell? ⟨w.heap.size, 0, none⟩ = some (.int .i64 o) := by
  rw [h.cell (by exact Nat.lt_succ_self _), World.cell?_alloc_at _ _ _ _ rfl]; rfl

theorem map_snoc {g off cap : Nat} {W : List (Nat × Nat)} {p : Nat × Nat} {w : World} {base : Nat} {v : Value} (h : w.ownsRow base 22 1 v (W.map (wv g off cap) ++ [wv g off cap p]).length (W.map (wv g off cap) ++ [wv g off cap p])) :
    w.ownsRow base 22 1 v ((W ++ [p]).map (wv g off cap)).length ((W ++ [p]).map (wv g off cap)) := by
  rw [List.map_append]; exact h

def PwP (g off cap : Nat) (C : List (Nat × Nat)) (w : World) (e : Ending) (w' : World) : Prop :=
  ∃ v, e = .returned v ∧ w'.ownsRow w.heap.size 22 1 v C.length (C.map (wv g off cap)) ∧ Below w.heap.size w w'

theorem own_mono {w : World} {base base' : Nat} {e : TypeId} {size : Nat} {v : Value} {n : Nat} {xs : List Value} (h : w.ownsRow base e size v n xs) (hb : base' ≤ base) : w.ownsRow base' e size v n xs := by
  refine ⟨h.1, ?_⟩
  rcases h.2 with h2 | ⟨g, cap, cur, a, b, c⟩
  · exact .inl h2
  · exact .inr ⟨g, cap, cur, a, Nat.le_trans hb b, c⟩

theorem PwP.mk {g off cap : Nat} {C W : List (Nat × Nat)} {w w' : World} {o : Obj} {v : Value} (hW : W = C) (h1 : w'.ownsRow (w.heap.size + 1) 22 1 v (W.map (wv g off cap)).length (W.map (wv g off cap))) (h2 : Below (w.heap.size + 1) (w.alloc o) w') : PwP g off cap C w (.returned v) w' := by
  subst hW
  refine ⟨v, rfl, ?_, ?_⟩
  · have := own_mono h1 (Nat.le_succ _)
    simpa using this
  · exact ((Below.refl _ _).alloc (Nat.le_refl _) o).trans (h2.mono (Nat.le_succ _))

set_option maxHeartbeats 4000000 in
theorem page_any (o : Int) (g off cap : Nat) (L : List UInt8) (w : World) (ho : 0 ≤ o) (ho2 : o ≤ 4611686022722355200) (hl : L.length ≤ 1048576) (hpos : 0 < L.length) (hcap : L.length ≤ cap) (hcm : cap ≤ maxLen) (hg : g < w.heap.size)
    (hc : ∀ i, i < L.length → w.cell? ⟨g, off + i, none⟩ = some (.int .u8 (L.getD i 0).toNat)) :
    Calls Try.prog 15 #[.int .i64 o, .slice (some ⟨g, off, none⟩) L.length cap] w (PwP g off cap (Plain.cuts o L) w) := by
  unfold maxLen at hcm
  have HC := hideP hc
  clear hc
  go_enter Try.func15, Try.ntmps15
  go_wp2_with fail
  go_loopw [6, 7, 8] (fun v sv ev wr => ∃ (s e f : Nat) (W : List (Nat × Nat)), sv = .int .i64 s ∧ ev = .int .i64 e ∧ s ≤ e ∧ e ≤ L.length ∧ W.length ≤ s ∧ L.length - e < f ∧ W ++ Plain.pw o L f s e = Plain.cuts o L ∧
      wr.ownsRow (w.heap.size + 1) 22 1 v (W.map (wv g off cap)).length (W.map (wv g off cap)) ∧ Below (w.heap.size + 1) (w.alloc (.cells #[.int .i64 o] 2)) wr ∧ w.heap.size + 1 ≤ wr.heap.size) (fun _ _ ev _ => L.length - (intOf ev).toNat)
  case atStart => exact ⟨0, 0, L.length + 1, [], rfl, rfl, Nat.le_refl _, Nat.zero_le _, Nat.le_refl _, by omega, rfl, World.ownsRow_nil _ _ _ _, Below.refl _ _, by simp⟩
  case round =>
    obtain ⟨s, e, f, W, rfl, rfl, hse, hel, hWs, hf, hT, hown, hbr, hbs⟩ := hrel
    have hbox := box_of hbr
    have hcx : ∀ i, i < L.length → wr.cell? ⟨g, off + i, none⟩ = some (.int .u8 (L.getD i 0).toNat) := fun i hi => by
      rw [hbr.cell (by exact Nat.lt_succ_of_lt hg), World.cell?_alloc_past _ _ _ (by exact hg)]; exact HC.out i hi
    have HO := hideP hown
    have HBr := hideP hbr
    have HT := hideP hT
    have HCx := hideP hcx
    clear hown hbr hT hcx
    by_cases hlt : e < L.length
    · have hb1 : ∀ i, i < (L.drop e).length → wr.cell? ⟨g, off + e + i, none⟩ = some (.int .u8 ((L.drop e).getD i 0).toNat) := fun i hi => by
        rw [Nat.add_assoc, HCx.out (e + i) (by simp at hi; omega)]
        simp [List.getD_eq_getElem?_getD]
      have HB1 := hideP (bidx_any g (off + e) (cap - e) (L.drop e) (L.length - e) wr (by simp) hb1)
      have hce : cap ≠ e := by omega
      clear hb1
      rcases Plain.index_cases L e with ⟨hi1, hi2⟩ | ⟨k, hi1, hi2, hi3⟩
      · rw [hi1] at HB1
        have HI := hideP hi2
        clear hi1 hi2
        obtain ⟨f, rfl⟩ : ∃ f', f = f' + 1 := ⟨f - 1, by omega⟩
        have hcs : cap ≠ s := by omega
        cases hc1 : Plain.crosses o s (L.length) with
        | false =>
          have HT2 := hideP (HT.out.symm.trans (congrArg (W ++ ·) (pw_stay (f := f) HI.out hlt hc1))).symm
          have hw1 : ((o + (s : Int)) / 4096 != (o + (L.length : Int) - 1) / 4096) = false := by rw [← hc1]; simp [Plain.crosses]
          clear HT hc1
          go_wp2_with (first | (go_at_call 17; refine HB1.out.mono ?_; rintro e w' ⟨rfl, rfl⟩) | go_in)
          go_roundw
          case rel => exact ⟨s, L.length, f, W, rfl, by go_num, by omega, by omega, hWs, by omega, HT2.out, HO.out, HBr.out, hbs⟩
          case measure => simp [intOf]; omega
        | true =>
          have hw1 : ((o + (s : Int)) / 4096 != (o + (L.length : Int) - 1) / 4096) = true := by rw [← hc1]; simp [Plain.crosses]
          by_cases hse2 : s < e
          · cases hc2 : Plain.crosses o e (L.length) with
            | false =>
              have HT2 : Hid ((W ++ [(s, e)]) ++ Plain.pw o L f e (L.length) = Plain.cuts o L) := by rw [List.append_assoc, ← pw_one HI.out hlt hc1 hse2 hc2]; exact HT.out
              have hw2 : ((o + (e : Int)) / 4096 != (o + (L.length : Int) - 1) / 4096) = false := by rw [← hc2]; simp [Plain.crosses]
              clear HT hc1 hc2
              go_wp2_with (first | (go_at_call 17; refine HB1.out.mono ?_; rintro e w' ⟨rfl, rfl⟩) | (at_builtin; refine wp_app _ _ rfl (.tmp 34) (.tmp 39) rfl (w.heap.size + 1) _ (W.map (wv g off cap)) (wv g off cap (s, e)) ⟨_, 0, none⟩ rfl rfl (by rw [World.cell?_alloc_at _ _ _ _ rfl]; rfl) rfl (World.ownsRow.alloc HO.out _) (Below.alloc HBr.out hbs _) (Nat.le_trans hbs (by simp)) (by simp; omega) ?_; intro v1 w1 hown1 hbel1 hbs1; have HO1 := hideP (map_snoc hown1); have HL1 := hideP hbel1; have hbox1 := box_of hbel1; clear hown1 hbel1) | go_in)
              go_roundw
              case rel => exact ⟨e, L.length, f, W ++ [(s, e)], rfl, by go_num, by omega, by omega, by simp; omega, by omega, HT2.out, HO1.out, HL1.out, hbs1⟩
              case measure => simp [intOf]; omega
            | true =>
              have HT2 : Hid (((W ++ [(s, e)]) ++ [(e, L.length)]) ++ Plain.pw o L f (L.length) (L.length) = Plain.cuts o L) := by rw [List.append_assoc W, List.append_assoc W]; exact (congrArg (W ++ ·) (pw_two (f := f) HI.out hlt hc1 hse2 hc2)).symm.trans HT.out
              have hw2 : ((o + (e : Int)) / 4096 != (o + (L.length : Int) - 1) / 4096) = true := by rw [← hc2]; simp [Plain.crosses]
              clear HT hc1 hc2
              go_wp2_with (first | (go_at_call 17; refine HB1.out.mono ?_; rintro e w' ⟨rfl, rfl⟩) | (at_builtin; refine wp_app _ _ rfl (.tmp 34) (.tmp 39) rfl (w.heap.size + 1) _ (W.map (wv g off cap)) (wv g off cap (s, e)) ⟨_, 0, none⟩ rfl rfl (by rw [World.cell?_alloc_at _ _ _ _ rfl]; rfl) rfl (World.ownsRow.alloc HO.out _) (Below.alloc HBr.out hbs _) (Nat.le_trans hbs (by simp)) (by simp; omega) ?_; intro v1 w1 hown1 hbel1 hbs1; have HO1 := hideP (map_snoc hown1); have HL1 := hideP hbel1; have hbox1 := box_of hbel1; clear hown1 hbel1) | (at_builtin; refine wp_app _ _ rfl (.tmp 46) (.tmp 51) rfl (w.heap.size + 1) _ ((W ++ [(s, e)]).map (wv g off cap)) (wv g off cap (e, L.length)) ⟨_, 0, none⟩ rfl rfl (by rw [World.cell?_alloc_at _ _ _ _ rfl]; rfl) rfl (World.ownsRow.alloc HO1.out _) (Below.alloc HL1.out hbs1 _) (Nat.le_trans hbs1 (by simp)) (by simp; omega) ?_; intro v2 w2 hown2 hbel2 hbs2; have HO2 := hideP (map_snoc hown2); have HL2 := hideP hbel2; clear hown2 hbel2) | go_in)
              go_roundw
              case rel => exact ⟨L.length, L.length, f, (W ++ [(s, e)]) ++ [(e, L.length)], by go_num, by go_num, by omega, by omega, by simp; omega, by omega, HT2.out, HO2.out, HL2.out, hbs2⟩
              case measure => simp [intOf]; omega
          · obtain rfl : e = s := by omega
            have HT2 : Hid ((W ++ [(e, L.length)]) ++ Plain.pw o L f (L.length) (L.length) = Plain.cuts o L) := by rw [List.append_assoc, ← pw_line HI.out hlt hc1]; exact HT.out
            clear HT hc1
            go_wp2_with (first | (go_at_call 17; refine HB1.out.mono ?_; rintro e w' ⟨rfl, rfl⟩) | (at_builtin; refine wp_app _ _ rfl (.tmp 46) (.tmp 51) rfl (w.heap.size + 1) _ (W.map (wv g off cap)) (wv g off cap (e, L.length)) ⟨_, 0, none⟩ rfl rfl (by rw [World.cell?_alloc_at _ _ _ _ rfl]; rfl) rfl (World.ownsRow.alloc HO.out _) (Below.alloc HBr.out hbs _) (Nat.le_trans hbs (by simp)) (by simp; omega) ?_; intro v1 w1 hown1 hbel1 hbs1; have HO1 := hideP (map_snoc hown1); have HL1 := hideP hbel1; have hbox1 := box_of hbel1; clear hown1 hbel1) | go_in)
            go_roundw
            case rel => exact ⟨L.length, L.length, f, W ++ [(e, L.length)], by go_num, by go_num, by omega, by omega, by simp; omega, by omega, HT2.out, HO1.out, HL1.out, hbs1⟩
            case measure => simp [intOf]; omega
      · rw [hi1] at HB1
        have HI := hideP hi2
        clear hi1 hi2
        obtain ⟨f, rfl⟩ : ∃ f', f = f' + 1 := ⟨f - 1, by omega⟩
        have hcs : cap ≠ s := by omega
        cases hc1 : Plain.crosses o s (e + k + 1) with
        | false =>
          have HT2 := hideP (HT.out.symm.trans (congrArg (W ++ ·) (pw_stay (f := f) HI.out hlt hc1))).symm
          have hw1 : ((o + (s : Int)) / 4096 != (o + ((e : Int) + (k : Int) + 1) - 1) / 4096) = false := by rw [← hc1]; simp [Plain.crosses]
          clear HT hc1
          go_wp2_with (first | (go_at_call 17; refine HB1.out.mono ?_; rintro e w' ⟨rfl, rfl⟩) | go_in)
          go_roundw
          case rel => exact ⟨s, e + k + 1, f, W, rfl, by go_num, by omega, by omega, hWs, by omega, HT2.out, HO.out, HBr.out, hbs⟩
          case measure => simp [intOf]; omega
        | true =>
          have hw1 : ((o + (s : Int)) / 4096 != (o + ((e : Int) + (k : Int) + 1) - 1) / 4096) = true := by rw [← hc1]; simp [Plain.crosses]
          by_cases hse2 : s < e
          · cases hc2 : Plain.crosses o e (e + k + 1) with
            | false =>
              have HT2 : Hid ((W ++ [(s, e)]) ++ Plain.pw o L f e (e + k + 1) = Plain.cuts o L) := by rw [List.append_assoc, ← pw_one HI.out hlt hc1 hse2 hc2]; exact HT.out
              have hw2 : ((o + (e : Int)) / 4096 != (o + ((e : Int) + (k : Int) + 1) - 1) / 4096) = false := by rw [← hc2]; simp [Plain.crosses]
              clear HT hc1 hc2
              go_wp2_with (first | (go_at_call 17; refine HB1.out.mono ?_; rintro e w' ⟨rfl, rfl⟩) | (at_builtin; refine wp_app _ _ rfl (.tmp 34) (.tmp 39) rfl (w.heap.size + 1) _ (W.map (wv g off cap)) (wv g off cap (s, e)) ⟨_, 0, none⟩ rfl rfl (by rw [World.cell?_alloc_at _ _ _ _ rfl]; rfl) rfl (World.ownsRow.alloc HO.out _) (Below.alloc HBr.out hbs _) (Nat.le_trans hbs (by simp)) (by simp; omega) ?_; intro v1 w1 hown1 hbel1 hbs1; have HO1 := hideP (map_snoc hown1); have HL1 := hideP hbel1; have hbox1 := box_of hbel1; clear hown1 hbel1) | go_in)
              go_roundw
              case rel => exact ⟨e, e + k + 1, f, W ++ [(s, e)], rfl, by go_num, by omega, by omega, by simp; omega, by omega, HT2.out, HO1.out, HL1.out, hbs1⟩
              case measure => simp [intOf]; omega
            | true =>
              have HT2 : Hid (((W ++ [(s, e)]) ++ [(e, e + k + 1)]) ++ Plain.pw o L f (e + k + 1) (e + k + 1) = Plain.cuts o L) := by rw [List.append_assoc W, List.append_assoc W]; exact (congrArg (W ++ ·) (pw_two (f := f) HI.out hlt hc1 hse2 hc2)).symm.trans HT.out
              have hw2 : ((o + (e : Int)) / 4096 != (o + ((e : Int) + (k : Int) + 1) - 1) / 4096) = true := by rw [← hc2]; simp [Plain.crosses]
              clear HT hc1 hc2
              go_wp2_with (first | (go_at_call 17; refine HB1.out.mono ?_; rintro e w' ⟨rfl, rfl⟩) | (at_builtin; refine wp_app _ _ rfl (.tmp 34) (.tmp 39) rfl (w.heap.size + 1) _ (W.map (wv g off cap)) (wv g off cap (s, e)) ⟨_, 0, none⟩ rfl rfl (by rw [World.cell?_alloc_at _ _ _ _ rfl]; rfl) rfl (World.ownsRow.alloc HO.out _) (Below.alloc HBr.out hbs _) (Nat.le_trans hbs (by simp)) (by simp; omega) ?_; intro v1 w1 hown1 hbel1 hbs1; have HO1 := hideP (map_snoc hown1); have HL1 := hideP hbel1; have hbox1 := box_of hbel1; clear hown1 hbel1) | (at_builtin; refine wp_app _ _ rfl (.tmp 46) (.tmp 51) rfl (w.heap.size + 1) _ ((W ++ [(s, e)]).map (wv g off cap)) (wv g off cap (e, e + k + 1)) ⟨_, 0, none⟩ rfl rfl (by rw [World.cell?_alloc_at _ _ _ _ rfl]; rfl) rfl (World.ownsRow.alloc HO1.out _) (Below.alloc HL1.out hbs1 _) (Nat.le_trans hbs1 (by simp)) (by simp; omega) ?_; intro v2 w2 hown2 hbel2 hbs2; have HO2 := hideP (map_snoc hown2); have HL2 := hideP hbel2; clear hown2 hbel2) | go_in)
              go_roundw
              case rel => exact ⟨e + k + 1, e + k + 1, f, (W ++ [(s, e)]) ++ [(e, e + k + 1)], by go_num, by go_num, by omega, by omega, by simp; omega, by omega, HT2.out, HO2.out, HL2.out, hbs2⟩
              case measure => simp [intOf]; omega
          · obtain rfl : e = s := by omega
            have HT2 : Hid ((W ++ [(e, e + k + 1)]) ++ Plain.pw o L f (e + k + 1) (e + k + 1) = Plain.cuts o L) := by rw [List.append_assoc, ← pw_line HI.out hlt hc1]; exact HT.out
            clear HT hc1
            go_wp2_with (first | (go_at_call 17; refine HB1.out.mono ?_; rintro e w' ⟨rfl, rfl⟩) | (at_builtin; refine wp_app _ _ rfl (.tmp 46) (.tmp 51) rfl (w.heap.size + 1) _ (W.map (wv g off cap)) (wv g off cap (e, e + k + 1)) ⟨_, 0, none⟩ rfl rfl (by rw [World.cell?_alloc_at _ _ _ _ rfl]; rfl) rfl (World.ownsRow.alloc HO.out _) (Below.alloc HBr.out hbs _) (Nat.le_trans hbs (by simp)) (by simp; omega) ?_; intro v1 w1 hown1 hbel1 hbs1; have HO1 := hideP (map_snoc hown1); have HL1 := hideP hbel1; have hbox1 := box_of hbel1; clear hown1 hbel1) | go_in)
            go_roundw
            case rel => exact ⟨e + k + 1, e + k + 1, f, W ++ [(e, e + k + 1)], by go_num, by go_num, by omega, by omega, by simp; omega, by omega, HT2.out, HO1.out, HL1.out, hbs1⟩
            case measure => simp [intOf]; omega
    · obtain ⟨f, rfl⟩ : ∃ f', f = f' + 1 := ⟨f - 1, by omega⟩
      by_cases hs : s < L.length
      · have hcs : cap ≠ s := by omega
        have HT2 : Hid (W ++ [(s, L.length)] = Plain.cuts o L) := by have := HT.out; rw [pw_end hlt, if_pos hs] at this; exact this
        clear HT HCx HC
        go_wp2_with (at_builtin; refine wp_app _ _ rfl (.tmp 59) (.tmp 63) rfl (w.heap.size + 1) _ (W.map (wv g off cap)) (wv g off cap (s, L.length)) ⟨_, 0, none⟩ rfl rfl (by rw [World.cell?_alloc_at _ _ _ _ rfl]; rfl) rfl (World.ownsRow.alloc HO.out _) (Below.alloc HBr.out hbs _) (Nat.le_trans hbs (by simp)) (by simp; omega) ?_; intro v1 w1 hown1 hbel1 hbs1; have HO1 := hideP (map_snoc hown1); have HL1 := hideP hbel1; clear hown1 hbel1)
        go_ret
        exact PwP.mk HT2.out HO1.out HL1.out
      · have HT2 : Hid (W = Plain.cuts o L) := by have := HT.out; rw [pw_end hlt, if_neg hs, List.append_nil] at this; exact this
        clear HT HCx HC
        go_wp2
        go_ret
        exact PwP.mk HT2.out HO.out HBr.out

/-- .. of no bytes: nothing is written. -/
theorem page_nil (o : Int) (a : Option Addr) (cap : Nat) (w : World) :
    Calls Try.prog 15 #[.int .i64 o, .slice a 0 cap] w fun e w' => e = .returned (.slice none 0 0) ∧ Below w.heap.size w w' := by
  go_enter Try.func15, Try.ntmps15
  go_wp2
  refine wp_loop_rounds 1 ?_
  rw [rounds_succ]
  go_wp2
  go_ret
  exact ⟨rfl, (Below.refl _ _).alloc (Nat.le_refl _) _⟩

theorem zz9_nil (o : Int) (a : Option Addr) (cap : Nat) (w : World) :
    Calls Try.prog 9 #[.int .i64 o, .slice a 0 cap] w fun e w' => e = .returned (.slice none 0 0) ∧ Below w.heap.size w w' := by
  go_enter Try.func9, Try.ntmps9
  go_wp2_with fail
  refine (page_nil o a cap w).mono ?_
  rintro e w' ⟨rfl, hb⟩
  go_wp2
  go_ret
  exact ⟨rfl, hb⟩

theorem zz9_any (o : Int) (g off cap : Nat) (L : List UInt8) (w : World) (ho : 0 ≤ o) (ho2 : o ≤ 4611686022722355200) (hl : L.length ≤ 1048576) (hpos : 0 < L.length) (hcap : L.length ≤ cap) (hcm : cap ≤ maxLen) (hg : g < w.heap.size)
    (hc : ∀ i, i < L.length → w.cell? ⟨g, off + i, none⟩ = some (.int .u8 (L.getD i 0).toNat)) :
    Calls Try.prog 9 #[.int .i64 o, .slice (some ⟨g, off, none⟩) L.length cap] w (PwP g off cap (Plain.cuts o L) w) := by
  have HP := hideP (page_any o g off cap L w ho ho2 hl hpos hcap hcm hg hc)
  clear hc
  go_enter Try.func9, Try.ntmps9
  go_wp2_with fail
  refine HP.out.mono ?_
  rintro e w' ⟨v, rfl, h1, h2⟩
  have H1 := hideP h1
  have H2 := hideP h2
  clear h1 h2 HP
  go_wp2
  go_ret
  exact ⟨v, rfl, H1.out, H2.out⟩

/-- The row of the writes, opened. -/
theorem writes_open {w : World} {base g off cap : Nat} {v : Value} {C : List (Nat × Nat)} (h : w.ownsRow base 22 1 v C.length (C.map (wv g off cap))) (hp : 0 < C.length) :
    ∃ q c, v = .slice (some ⟨q, 0, none⟩) C.length c ∧ q < w.heap.size ∧ ∀ i p, C[i]? = some p → w.cell? ⟨q, i, none⟩ = some (wv g off cap p) := by
  rcases h.2 with ⟨rfl, h0⟩ | ⟨q, c, cur, rfl, hb, hg, hnc, hcm, _, _⟩
  · omega
  · refine ⟨q, c, rfl, (h.lt q rfl).2, fun i p hi => ?_⟩
    have hlt := (List.getElem?_eq_some_iff.1 hi).1
    rw [h.cellAt i (by omega), List.getElem?_map, hi]
    rfl

end Go.Proofs.Qxb6600400a
