/-
  SEAT b6600400a: WALKS 5: 'zzLineEnds' (14).
-/
import Derived.Test.Qxb6600400aWFour
import Derived.Test.Qxb6600400aPlainThree
namespace Go.Proofs.Qxb6600400a
open Go.RowKit
set_option linter.unusedVariables false

theorem Try.info3 : (Try.prog.info? 3).map (fun i => (i.zero, i.size, i.bytes)) = some (some (.int .i64 0), 1, 8) := by kernel_rfl

def iv (n : Nat) : Value := .int .i64 n

/-- 'xs = append(xs, n)', xs a row of ints of the call's own. -/
theorem wp_appI (w0 w : World) {ops : Array Oper} {rest : List Oper} {o : Oper} {a : Act} {Q : Exit → Act → World → Prop} (hgd : o.guard = none) (sl x : Operand)
    (ho : o.op = .call { callee := .builtin .append, args := #[sl, x], argTypes := #[25, 25] }) (base : Nat) (v : Value) (W : List Nat) (n : Nat) (ad : Addr) (hs : a.eval sl = v) (hx : a.eval x = .slice (some ad) 1 1)
    (hcell : w.cell? ad = some (iv n)) (hown : w.ownsRow base 3 1 v (W.map iv).length (W.map iv)) (hbel : Below base w0 w) (hbase : base ≤ w.heap.size) (hbd : W.length ≤ 1099511627776)
    (h : ∀ v' w', w'.ownsRow base 3 1 v' ((W ++ [n]).map iv).length ((W ++ [n]).map iv) → Below base w0 w' → base ≤ w'.heap.size → wpList Try.prog ops Q rest (a.put o.dst v') w') : wpList Try.prog ops Q (o :: rest) a w := by
  obtain ⟨i0, hi0, hz0, hz1, hz2⟩ := info_parts Try.info3
  have hl : (W.map iv).length = W.length := by simp
  refine wpList_append_own w hgd sl x 25 ho base 3 i0 (.int .i64 0) 1 8 Try.underlying25 hi0 hz0 hz1 hz2 rfl (by decide) v (W.map iv).length (W.map iv) hs hown ad 1 1 [iv n] hx rfl ?_ ?_ ?_ ?_ hbase ?_
  · intro j u hj
    match j, hj with
    | 0, hj => simp at hj; subst hj; simpa [Addr.add] using hcell
  · intro u hu; simp at hu; subst hu; rfl
  · unfold maxLen; omega
  · omega
  · intro v' w' h1 h2 _
    exact h v' w' (by simpa using h1) (hbel.grown h2 hbase (fun k hk => (hown.lt k hk).1)) (Nat.le_trans hbase h2.size)

def IP (T : List Nat) (w : World) (e : Ending) (w' : World) : Prop :=
  ∃ v, e = .returned v ∧ w'.ownsRow w.heap.size 3 1 v (T.map iv).length (T.map iv) ∧ Below w.heap.size w w'
theorem IP.mk {T W : List Nat} {w w' : World} {v : Value} (hW : W = T) (h1 : w'.ownsRow w.heap.size 3 1 v (W.map iv).length (W.map iv)) (h2 : Below w.heap.size w w') : IP T w (.returned v) w' := by
  subst hW; exact ⟨v, rfl, h1, h2⟩

/-- Is a line begun ahead of place k? -/
def pend (L : List UInt8) (k : Nat) : Bool := decide (0 < k) && (L.getD (k - 1) 0 != 10)

theorem ends_step {L : List UInt8} {k : Nat} {t : UInt8} (hk : k < L.length) (ht : t = L.getD k 0) (b : Bool) :
    (t = 10 → Plain.ends (L.drop k) k b = [k + 1] ++ Plain.ends (L.drop (k + 1)) (k + 1) (pend L (k + 1))) ∧ (t ≠ 10 → Plain.ends (L.drop k) k b = Plain.ends (L.drop (k + 1)) (k + 1) (pend L (k + 1))) := by
  have hd : L.drop k = t :: L.drop (k + 1) := by
    rw [List.drop_eq_getElem_cons hk, ht, List.getD_eq_getElem?_getD, List.getElem?_eq_getElem hk]; rfl
  have hp : pend L (k + 1) = (t != 10) := by unfold pend; rw [Nat.add_sub_cancel, ← ht]; simp
  refine ⟨fun h => ?_, fun h => ?_⟩
  · rw [hd, Plain.ends, if_pos (by simpa using h), hp, h]; rfl
  · rw [hd, Plain.ends, if_neg (by simpa using h), hp, show (t != 10) = true by simpa using h]

/-- A row of ints, opened: its value; its cells. -/
theorem ints_open {w : World} {base : Nat} {v : Value} {T : List Nat} (h : w.ownsRow base 3 1 v (T.map iv).length (T.map iv)) :
    ∃ ao c, v = .slice ao T.length c ∧ (0 < T.length → ∃ q, ao = some ⟨q, 0, none⟩ ∧ base ≤ q ∧ q < w.heap.size ∧ ∀ (i n : Nat), T[i]? = some n → w.cell? ⟨q, i, none⟩ = some (.int .i64 n)) := by
  have hl : (T.map iv).length = T.length := by simp
  rcases h.2 with ⟨rfl, h0⟩ | ⟨q, c, cur, rfl, hb, hg, hnc, hcm, _, _⟩
  · rw [hl] at h0
    rw [h0]
    exact ⟨none, 0, rfl, fun h => absurd h (by omega)⟩
  · refine ⟨some ⟨q, 0, none⟩, c, by rw [hl], fun hp => ⟨q, rfl, hb, (h.lt q rfl).2, fun i n hi => ?_⟩⟩
    have hlt := (List.getElem?_eq_some_iff.1 hi).1
    rw [h.cellAt i (by rw [hl]; omega), List.getElem?_map, hi]
    rfl

set_option maxRecDepth 100000 in
set_option maxHeartbeats 2000000 in
theorem lineEnds_any (a : Option Addr) (cap : Nat) (L : List UInt8) (w : World) (hl : L.length ≤ 1048576) (hc : Row w a L) :
    Calls Try.prog 14 #[.slice a L.length cap] w (IP (Plain.ends L 0 false) w) := by
  obtain ⟨i0, hi0, hz0, hz1, hz2⟩ := info_parts Try.info3
  have HC := hideP hc
  clear hc
  go_enter Try.func14, Try.ntmps14
  go_wp2_with (at_make; refine wpList_make_own _ rfl _ _ 25 rfl w.heap.size 3 i0 (.int .i64 0) 1 Try.underlying25 hi0 hz0 hz1 .i64 .i64 8 8 rfl rfl rfl (by rw [hz2]; omega) (by unfold maxLen; omega) (Nat.le_refl _) ?_; intro w1 hown hgrow)
  have hbel : Below w.heap.size w w1 := (Below.refl _ _).grown hgrow (Nat.le_refl _) (fun k hk => by cases hk)
  have HO : Hid (w1.ownsRow w.heap.size 3 1 (.slice (some ⟨w.heap.size, 0, none⟩) 0 8) (([] : List Nat).map iv).length (([] : List Nat).map iv)) := hown
  have HB := hideP hbel
  have hb1 := hbel.size
  clear hown hgrow hbel hi0 hz0 hz1 hz2
  go_wp2
  rcases HC.out.cases with rfl | ⟨hpos, g, off, rfl, hg, hcell⟩
  · refine wp_loop_rounds 1 ?_
    rw [rounds_succ]
    go_wp2
    go_ret
    exact IP.mk rfl HO.out HB.out
  have HCe := hideP hcell
  clear hcell HC
  go_loopw [3, 4] (fun v kv wr => ∃ (k : Nat) (W : List Nat), k ≤ L.length ∧ kv = .int .i64 k ∧ W.length ≤ k ∧ W ++ Plain.ends (L.drop k) k (pend L k) = Plain.ends L 0 false ∧
      wr.ownsRow w.heap.size 3 1 v (W.map iv).length (W.map iv) ∧ Below w.heap.size w wr ∧ w.heap.size ≤ wr.heap.size) (fun _ kv _ => L.length - (intOf kv).toNat)
  case atStart => exact ⟨0, [], Nat.zero_le _, rfl, Nat.le_refl _, rfl, HO.out, HB.out, hb1⟩
  case round =>
    obtain ⟨k, W, hk, rfl, hWk, hT, hown, hbr, hbs⟩ := hrel
    clear HO HB hb1
    have HO := hideP hown
    have HBr := hideP hbr
    have HT := hideP hT
    clear hown hT
    by_cases hlt : k < L.length
    · obtain ⟨t, ht⟩ : ∃ t, t = L.getD k 0 := ⟨_, rfl⟩
      have hcx : wr.cell? ⟨g, off + k, none⟩ = some (.int .u8 t.toNat) := by rw [ht]; exact (hbr.cell (by exact hg)).trans (HCe.out k hlt)
      have hst := ends_step hlt ht (pend L k)
      by_cases h10 : t = 10
      · have h10' : ((t.toNat : Int) == 10) = true := by rw [h10]; rfl
        have HT2 : Hid ((W ++ [k + 1]) ++ Plain.ends (L.drop (k + 1)) (k + 1) (pend L (k + 1)) = Plain.ends L 0 false) := by rw [List.append_assoc, ← hst.1 h10]; exact HT.out
        clear HT hst h10 ht hbr
        go_wp2_with (at_builtin; refine wp_appI _ _ rfl (.tmp 17) (.tmp 20) rfl w.heap.size _ W (k + 1) ⟨_, 0, none⟩ rfl rfl (by rw [World.cell?_alloc_at _ _ _ _ rfl]; rfl) (World.ownsRow.alloc HO.out _) (Below.alloc HBr.out hbs _) (Nat.le_trans hbs (by simp)) (by omega) ?_; intro v1 w1' hown1 hbel1 hbs1; have HO1 := hideP hown1; have HL1 := hideP hbel1; clear hown1 hbel1)
        go_roundw
        case rel => exact ⟨k + 1, W ++ [k + 1], by omega, by go_num, by simp; omega, HT2.out, HO1.out, HL1.out, hbs1⟩
        case measure => simp [intOf]; omega
      · have h10' : ((t.toNat : Int) == 10) = false := by
          rw [beq_eq_false_iff_ne]; intro h; exact h10 (UInt8.toNat_inj.1 (by have : (10 : UInt8).toNat = 10 := rfl; omega))
        have HT2 : Hid (W ++ Plain.ends (L.drop (k + 1)) (k + 1) (pend L (k + 1)) = Plain.ends L 0 false) := by rw [← hst.2 h10]; exact HT.out
        clear HT hst h10 ht hbr
        go_wp2
        go_roundw
        case rel => exact ⟨k + 1, W, by omega, by go_num, by omega, HT2.out, HO.out, HBr.out, hbs⟩
        case measure => simp [intOf]; omega
    · obtain rfl : k = L.length := by omega
      obtain ⟨m, hm⟩ : ∃ m, L.length = m + 1 := ⟨L.length - 1, by omega⟩
      obtain ⟨t, ht⟩ : ∃ t, t = L.getD m 0 := ⟨_, rfl⟩
      have hcx : wr.cell? ⟨g, off + m, none⟩ = some (.int .u8 t.toNat) := by rw [ht]; exact (hbr.cell (by exact hg)).trans (HCe.out m (by omega))
      have hpe : pend L L.length = (t != 10) := by unfold pend; rw [hm, Nat.add_sub_cancel, ← ht]; simp
      by_cases h10 : t = 10
      · have h10' : ((t.toNat : Int) != 10) = false := by rw [h10]; rfl
        have HT2 : Hid (W = Plain.ends L 0 false) := by
          have := HT.out
          rw [List.drop_length, hpe, show (t != 10) = false by simp [h10], Plain.ends, List.append_nil] at this
          exact this
        clear HT h10 ht hbr hpe
        have hcx2 : wr.cell? ⟨g, off + (L.length - 1), none⟩ = some (.int .u8 t.toNat) := by rw [hm, Nat.add_sub_cancel]; exact hcx
        clear hcx hm
        go_wp2
        go_ret
        exact IP.mk HT2.out HO.out HBr.out
      · have h10' : ((t.toNat : Int) != 10) = true := by
          rw [bne_iff_ne]; intro h; exact h10 (UInt8.toNat_inj.1 (by have : (10 : UInt8).toNat = 10 := rfl; omega))
        have HT2 : Hid (W ++ [L.length] = Plain.ends L 0 false) := by
          have := HT.out
          rw [List.drop_length, hpe, show (t != 10) = true by simpa using h10, Plain.ends] at this
          exact this
        have hcx2 : wr.cell? ⟨g, off + (L.length - 1), none⟩ = some (.int .u8 t.toNat) := by rw [hm, Nat.add_sub_cancel]; exact hcx
        clear HT h10 ht hbr hpe hcx hm
        go_wp2_with (at_builtin; refine wp_appI _ _ rfl (.tmp 34) (.tmp 37) rfl w.heap.size _ W L.length ⟨_, 0, none⟩ rfl rfl (by rw [World.cell?_alloc_at _ _ _ _ rfl]; rfl) (World.ownsRow.alloc HO.out _) (Below.alloc HBr.out hbs _) (Nat.le_trans hbs (by simp)) (by omega) ?_; intro v1 w1' hown1 hbel1 hbs1; have HO1 := hideP hown1; have HL1 := hideP hbel1; clear hown1 hbel1)
        go_ret
        exact IP.mk HT2.out HO1.out HL1.out

end Go.Proofs.Qxb6600400a
