/-
  SEAT b6600448a: WALKS 7: the clones (26, 22, 16).
-/
import Derived.Test.Qxb6600448aWSix
import Derived.Lib.SliceRun
namespace Go.Proofs.Qxb6600448a
open Go.RowKit
set_option linter.unusedVariables false

theorem Try.info9 : (Try.prog.info? 9).map (fun i => (i.zero, i.size, i.bytes)) = some (some (.string ByteArray.empty), 1, 16) := by kernel_rfl
theorem Try.info41 : (Try.prog.info? 41).map (fun i => (i.zero, i.size, i.bytes)) = some (some (.slice none 0 0), 1, 24) := by kernel_rfl

theorem q41 : ∀ (w : World) (a : Option Addr) (n c n' c' : Nat), (binOp .eql 41 (.slice a n c) (.slice none n' c')).run Try.prog w = .ok (.bool a.isNone) w := fun w a n c n' c' => Lib.run_eql_slice_nil w _ _ a n c n' c' Try.underlying41
theorem q27 : ∀ (w : World) (a : Option Addr) (n c n' c' : Nat), (binOp .eql 27 (.slice a n c) (.slice none n' c')).run Try.prog w = .ok (.bool a.isNone) w := fun w a n c n' c' => Lib.run_eql_slice_nil w _ _ a n c n' c' Try.underlying27
theorem q35 : ∀ (w : World) (a : Option Addr) (n c n' c' : Nat), (binOp .eql 35 (.slice a n c) (.slice none n' c')).run Try.prog w = .ok (.bool a.isNone) w := fun w a n c n' c' => Lib.run_eql_slice_nil w _ _ a n c n' c' Try.underlying35

/-- Strings in memory that lie at lo or above. -/
def StrGe (lo : Nat) (w : World) (a : Option Addr) (ss : List ByteArray) : Prop :=
  ss = [] ∨ ∃ b off, a = some ⟨b, off, none⟩ ∧ lo ≤ b ∧ b < w.heap.size ∧ ∀ i, i < ss.length → w.cell? ⟨b, off + i, none⟩ = some (.string (ss.getD i ByteArray.empty))

def ClP (ss : List ByteArray) (w : World) (e : Ending) (w' : World) : Prop :=
  ∃ (a : Option Addr) (cap : Nat), e = .returned (.slice a ss.length cap) ∧ (a = none → ss = []) ∧ StrGe w.heap.size w' a ss ∧ Below w.heap.size w w'
theorem ClP.mk {ss : List ByteArray} {w w' : World} {a : Option Addr} {n cap : Nat} (hn : ss.length = n) (h1 : a = none → ss = []) (h3 : StrGe w.heap.size w' a ss) (h4 : Below w.heap.size w w') : ClP ss w (.returned (.slice a n cap)) w' :=
  ⟨a, cap, by rw [hn], h1, h3, h4⟩

theorem strGe_of_row {w : World} {base g n cap : Nat} {ss : List ByteArray} (hn : ss.length = n) (h : w.ownsRow base 9 1 (.slice (some ⟨g, 0, none⟩) n cap) n (ss.map Value.string)) : StrGe base w (some ⟨g, 0, none⟩) ss := by
  refine .inr ⟨g, 0, rfl, (h.lt g rfl).1, (h.lt g rfl).2, fun i hi => ?_⟩
  have := h.cellAt i (by omega)
  rw [Nat.zero_add, this, List.getElem?_map, List.getD_eq_getElem?_getD, List.getElem?_eq_getElem hi]
  rfl

set_option maxHeartbeats 1000000 in
theorem clone26_any (a : Option Addr) (cap : Nat) (ss : List ByteArray) (w : World) (ha : a = none → ss = []) (hl : ss.length ≤ 65536) (hc : StrSl w a ss) :
    Calls Try.prog 26 #[.slice a ss.length cap] w (ClP ss w) := by
  have q41 := q41
  cases a with
  | none =>
    obtain rfl := ha rfl
    go_enter Try.func26, Try.ntmps26
    go_wp2
    go_ret
    exact ClP.mk rfl (fun _ => rfl) (.inl rfl) (Below.refl _ _)
  | some x =>
    obtain ⟨i0, hi, hz0, hz1, hz2⟩ := info_parts Try.info9
    go_enter Try.func26, Try.ntmps26
    go_wp2_with (at_make; refine wpList_make_full _ rfl _ _ 41 rfl w.heap.size 9 i0 (.string ByteArray.empty) 1 Try.underlying41 hi hz0 hz1 _ _ _ _ ss.length rfl rfl rfl rfl (by rw [hz2]; omega) (by unfold maxLen; omega) (Nat.le_refl _) ?_; intro w1 hown hgrow)
    have hown0 : w1.ownsRow w.heap.size 9 1 (.slice (some ⟨w.heap.size, 0, none⟩) ss.length ss.length) ss.length (fill (.string ByteArray.empty) (ss.map Value.string) 0) := by
      have e := fill_zero (.string ByteArray.empty) (ss.map Value.string)
      rw [List.length_map] at e
      rw [← e]
      exact hown
    have hbel : Below w.heap.size w w1 := (Below.refl _ _).grown hgrow (Nat.le_refl _) (fun k hk => by cases hk)
    clear hown hgrow
    rcases hc with rfl | ⟨b, off, hx, hb, hc⟩
    · go_wp2
      refine wp_loop_rounds 1 ?_
      rw [rounds_succ]
      go_wp2
      go_ret
      exact ClP.mk rfl (fun _ => rfl) (.inl rfl) hbel
    · cases hx
      have HO := hideP hown0
      clear hown0
      go_wp2
      go_loopw [4] (fun i wr => ∃ k : Nat, k ≤ ss.length ∧ i = .int .i64 k ∧ wr.ownsRow w.heap.size 9 1 (.slice (some ⟨w.heap.size, 0, none⟩) ss.length ss.length) ss.length (fill (.string ByteArray.empty) (ss.map Value.string) k) ∧ Below w.heap.size w wr) (fun i _ => ss.length - (intOf i).toNat)
      case atStart => exact ⟨0, Nat.zero_le _, rfl, HO.out, hbel⟩
      case round =>
        obtain ⟨k, hk, rfl, hown, hbr⟩ := hrel
        clear HO hbel
        by_cases hlt : k < ss.length
        · obtain ⟨t, ht⟩ : ∃ t, t = ss.getD k ByteArray.empty := ⟨_, rfl⟩
          have hcx : wr.cell? ⟨b, off + k, none⟩ = some (.string t) := by rw [ht]; exact (hbr.cell (by exact hb)).trans (hc k hlt)
          have hcw : wr.cell? ⟨w.heap.size, k, none⟩ = some (.string ByteArray.empty) := by rw [hown.cellAt k (by omega)]; exact fill_at _ _ k (by simpa using hlt)
          have hfw : wr.frozen? ⟨w.heap.size, k, none⟩ = false := hown.frozenAt k
          have hst := (hown.stored k (.string t)).1
          rw [fill_succ _ _ k (.string t) (by rw [ht, List.getElem?_map, List.getD_eq_getElem?_getD, List.getElem?_eq_getElem hlt]; rfl)] at hst
          have HB : Hid (Below w.heap.size w (wr.setCell ⟨w.heap.size, k, none⟩ (.string t))) := hbr.setCell (by exact Nat.le_refl _) _
          have HO2 := hideP hst
          clear hst ht hown hc hbr
          go_wp2
          go_roundw
          case rel => exact ⟨k + 1, by omega, by go_num, HO2.out, HB.out⟩
          case measure => simp [intOf]; omega
        · have hke : k = ss.length := by omega
          have e := fill_all (.string ByteArray.empty) (ss.map Value.string)
          rw [List.length_map] at e
          rw [hke, e] at hown
          have HO2 := hideP hown
          clear hke hown hc e
          go_wp2
          go_ret
          exact ClP.mk rfl (fun h => by cases h) (strGe_of_row rfl HO2.out) hbr

def CiP (ps : List Int) (w : World) (e : Ending) (w' : World) : Prop :=
  ∃ v, e = .returned v ∧ IntsAt w' v ps ∧ Below w.heap.size w w'

theorem intsAt_of_row {w : World} {base : Nat} {v : Value} {n : Nat} {ps : List Int} (hn : ps.length = n) (h : w.ownsRow base 3 1 v n (ps.map (.int .i64))) : IntsAt w v ps := by
  subst hn
  rcases forms h with ⟨h1, h2⟩ | ⟨g, c, rfl⟩
  · exact .inl ⟨h1, List.eq_nil_of_length_eq_zero h2⟩
  · refine .inr ⟨g, 0, c, rfl, (h.lt g rfl).2, fun i x hx => ?_⟩
    have hi : i < ps.length := (List.getElem?_eq_some_iff.1 hx).1
    rw [Nat.zero_add, h.cellAt i (by omega), List.getElem?_map, hx]
    rfl

set_option maxHeartbeats 1000000 in
theorem clone22_any (v : Value) (ps : List Int) (w : World) (hl : ps.length ≤ 65536) (hv : IntsAt w v ps ∨ (ps = [] ∧ ∃ x c, v = .slice (some x) 0 c)) :
    Calls Try.prog 22 #[v] w (CiP ps w) := by
  have q27 := q27
  obtain ⟨i0, hi, hz0, hz1, hz2⟩ := info_parts Try.info3
  rcases hv with (⟨rfl, rfl⟩ | ⟨b, off, cap, rfl, hb, hc⟩) | ⟨rfl, x, c, rfl⟩
  · go_enter Try.func22, Try.ntmps22
    go_wp2
    go_ret
    exact ⟨_, rfl, .inl ⟨rfl, rfl⟩, Below.refl _ _⟩
  · go_enter Try.func22, Try.ntmps22
    go_wp2_with (at_make; refine wpList_make_full _ rfl _ _ 27 rfl w.heap.size 3 i0 (.int .i64 0) 1 Try.underlying27 hi hz0 hz1 _ _ _ _ ps.length rfl rfl rfl rfl (by rw [hz2]; omega) (by unfold maxLen; omega) (Nat.le_refl _) ?_; intro w1 hown hgrow)
    have hown0 : w1.ownsRow w.heap.size 3 1 (.slice (some ⟨w.heap.size, 0, none⟩) ps.length ps.length) ps.length (fill (.int .i64 0) (ps.map (.int .i64)) 0) := by
      have e := fill_zero (.int .i64 0) (ps.map (.int .i64))
      rw [List.length_map] at e
      rw [← e]
      exact hown
    have hbel : Below w.heap.size w w1 := (Below.refl _ _).grown hgrow (Nat.le_refl _) (fun k hk => by cases hk)
    clear hown hgrow
    have HO := hideP hown0
    have HC := hideP hc
    clear hown0 hc
    go_wp2
    go_loopw [4] (fun i wr => ∃ k : Nat, k ≤ ps.length ∧ i = .int .i64 k ∧ wr.ownsRow w.heap.size 3 1 (.slice (some ⟨w.heap.size, 0, none⟩) ps.length ps.length) ps.length (fill (.int .i64 0) (ps.map (.int .i64)) k) ∧ Below w.heap.size w wr) (fun i _ => ps.length - (intOf i).toNat)
    case atStart => exact ⟨0, Nat.zero_le _, rfl, HO.out, hbel⟩
    case round =>
      obtain ⟨k, hk, rfl, hown, hbr⟩ := hrel
      clear HO hbel
      by_cases hlt : k < ps.length
      · obtain ⟨t, ht⟩ : ∃ t, ps[k]? = some t := ⟨ps[k], List.getElem?_eq_getElem hlt⟩
        have hcx : wr.cell? ⟨b, off + k, none⟩ = some (.int .i64 t) := (hbr.cell (by exact hb)).trans (HC.out k t ht)
        have hcw : wr.cell? ⟨w.heap.size, k, none⟩ = some (.int .i64 0) := by rw [hown.cellAt k (by omega)]; exact fill_at _ _ k (by simpa using hlt)
        have hfw : wr.frozen? ⟨w.heap.size, k, none⟩ = false := hown.frozenAt k
        have hst := (hown.stored k (.int .i64 t)).1
        rw [fill_succ _ _ k (.int .i64 t) (by rw [List.getElem?_map, ht]; rfl)] at hst
        have HB : Hid (Below w.heap.size w (wr.setCell ⟨w.heap.size, k, none⟩ (.int .i64 t))) := hbr.setCell (by exact Nat.le_refl _) _
        have HO2 := hideP hst
        clear hst ht hown hbr
        go_wp2
        go_roundw
        case rel => exact ⟨k + 1, by omega, by go_num, HO2.out, HB.out⟩
        case measure => simp [intOf]; omega
      · have hke : k = ps.length := by omega
        have e := fill_all (.int .i64 0) (ps.map (.int .i64))
        rw [List.length_map] at e
        rw [hke, e] at hown
        have HO2 := hideP hown
        clear hke hown e
        go_wp2
        go_ret
        exact ⟨_, rfl, intsAt_of_row rfl HO2.out, hbr⟩
  · go_enter Try.func22, Try.ntmps22
    go_wp2_with (at_make; refine wpList_make_full _ rfl _ _ 27 rfl w.heap.size 3 i0 (.int .i64 0) 1 Try.underlying27 hi hz0 hz1 _ _ _ _ 0 rfl rfl rfl rfl (by rw [hz2]; omega) (by unfold maxLen; omega) (Nat.le_refl _) ?_; intro w1 hown hgrow)
    have hown0 : w1.ownsRow w.heap.size 3 1 (.slice (some ⟨w.heap.size, 0, none⟩) 0 0) 0 (([] : List Int).map (.int .i64)) := by
      have e : (madeCells (Value.int IntKind.i64 0).cells (0 * 1)).toList = ([] : List Int).map (.int .i64) := by simp [madeCells]
      rw [← e]
      exact hown
    have HO := hideP hown0
    have HB : Hid (Below w.heap.size w w1) := (Below.refl _ _).grown hgrow (Nat.le_refl _) (fun k hk => by cases hk)
    clear hown hgrow hown0
    go_wp2
    refine wp_loop_rounds 1 ?_
    rw [rounds_succ]
    go_wp2
    go_ret
    exact ⟨_, rfl, intsAt_of_row rfl HO.out, HB.out⟩

def segV (x : Seg) : Value := .slice x.1 x.2.2.length x.2.1

theorem keepRow {w w' : World} {base size n : Nat} {e : TypeId} {v : Value} {xs : List Value} (h : w.ownsRow base e size v n xs) (hb : Below w.heap.size w w') : w'.ownsRow base e size v n xs :=
  h.kept (grownBy_of_below hb (some w.heap.size)) (by
    cases hv : v.ownBlock with
    | none => exact .inl rfl
    | some k =>
      refine .inr fun e => ?_
      have := (h.lt k hv).2
      simp at e
      omega)

theorem StrGe.below {lo : Nat} {w w' : World} {a : Option Addr} {ss : List ByteArray} (h : StrGe lo w a ss) (hb : Below w.heap.size w w') : StrGe lo w' a ss := by
  rcases h with h | ⟨b, off, h1, h2, h3, h4⟩
  · exact .inl h
  · exact .inr ⟨b, off, h1, h2, Nat.lt_of_lt_of_le h3 hb.size, fun i hi => (hb.cell (by exact h3)).trans (h4 i hi)⟩

theorem StrGe.set {lo : Nat} {w : World} {a : Option Addr} {ss : List ByteArray} (h : StrGe lo w a ss) {g k : Nat} (hg : g < lo) (u : Value) : StrGe lo (w.setCell ⟨g, k, none⟩ u) a ss := by
  rcases h with h | ⟨b, off, h1, h2, h3, h4⟩
  · exact .inl h
  · refine .inr ⟨b, off, h1, h2, by simpa using h3, fun i hi => ?_⟩
    rw [← h4 i hi]
    exact World.cell?_of_block (w := w) (Below.heap_setCell w _ u b (by show b ≠ g; omega))

theorem StrGe.mono {lo lo' : Nat} {w : World} {a : Option Addr} {ss : List ByteArray} (h : StrGe lo w a ss) (hl : lo' ≤ lo) : StrGe lo' w a ss := by
  rcases h with h | ⟨b, off, h1, h2, h3, h4⟩
  · exact .inl h
  · exact .inr ⟨b, off, h1, by omega, h3, h4⟩

theorem StrGe.sl {lo : Nat} {w : World} {a : Option Addr} {ss : List ByteArray} (h : StrGe lo w a ss) : StrSl w a ss := by
  rcases h with h | ⟨b, off, h1, h2, h3, h4⟩
  · exact .inl h
  · exact .inr ⟨b, off, h1, h3, h4⟩

def CsP (n : Nat) (w : World) (e : Ending) (w' : World) : Prop :=
  ∃ (a : Option Addr) (cap : Nat) (ys : List Seg), e = .returned (.slice a ys.length cap) ∧ ys.length = n ∧ (∀ y ∈ ys, y.2.2.length ≤ 65536) ∧ SegsAt w' a ys ∧ Below w.heap.size w w'

/-- The clone's row after k rounds. -/
def SgR (g n k : Nat) (w wr : World) (ys : List Seg) : Prop := ys.length = k ∧ (∀ y ∈ ys, y.2.2.length ≤ 65536 ∧ (y.1 = none → y.2.2 = []) ∧ StrGe (g + 1) wr y.1 y.2.2) ∧ wr.ownsRow g 41 1 (.slice (some ⟨g, 0, none⟩) n n) n (ys.map segV ++ List.replicate (n - k) (.slice none 0 0)) ∧ Below g w wr ∧ g < wr.heap.size

theorem SgR.step {g n k : Nat} {w wr w' : World} {ys : List Seg} (h : SgR g n k w wr ys) (hk : k < n) {a : Option Addr} {cap : Nat} {ss : List ByteArray} (hl : ss.length ≤ 65536) (h1 : a = none → ss = []) (h2 : StrGe wr.heap.size w' a ss) (h3 : Below wr.heap.size wr w') :
    w'.cell? ⟨g, k, none⟩ = some (.slice none 0 0) ∧ w'.frozen? ⟨g, k, none⟩ = false ∧ SgR g n (k + 1) w (w'.setCell ⟨g, k, none⟩ (.slice a ss.length cap)) (ys ++ [(a, cap, ss)]) := by
  obtain ⟨hy, hys, hrow, hbw, hlt⟩ := h
  have hr := keepRow hrow h3
  refine ⟨?_, hr.frozenAt k, by simp [hy], ?_, ?_, ?_, ?_⟩
  · rw [hr.cellAt k (by omega), List.getElem?_append_right (by simp [hy]), List.getElem?_replicate, if_pos (by simp [hy]; omega)]
  · intro y hm
    rcases List.mem_append.1 hm with hm | hm
    · obtain ⟨k1, k2, k3⟩ := hys y hm
      exact ⟨k1, k2, (k3.below h3).set (Nat.lt_succ_self g) _⟩
    · simp at hm
      subst hm
      exact ⟨hl, h1, (h2.mono hlt).set (Nat.lt_succ_self g) _⟩
  · have hst := (hr.stored k (.slice a ss.length cap)).1
    rw [List.set_append_right _ _ (by simp [hy]), show n - k = (n - (k + 1)) + 1 by omega, List.replicate_succ] at hst
    rw [List.map_append, List.append_assoc]
    have e0 : k - (ys.map segV).length = 0 := by simp [hy]
    rw [e0] at hst
    exact hst
  · exact (hbw.trans (h3.mono (by omega))).setCell (Nat.le_refl _) _
  · have := h3.size
    have e : (w'.setCell ⟨g, k, none⟩ (.slice a ss.length cap)).heap.size = w'.heap.size := by simp
    rw [e]
    omega

theorem SgR.done {g n : Nat} {w wr : World} {ys : List Seg} (h : SgR g n n w wr ys) : SegsAt wr (some ⟨g, 0, none⟩) ys := by
  obtain ⟨hy, hys, hrow, hbw, hlt⟩ := h
  refine .inr ⟨g, 0, rfl, hlt, fun i x hx => ?_⟩
  have hi : i < ys.length := (List.getElem?_eq_some_iff.1 hx).1
  obtain ⟨k1, k2, k3⟩ := hys x (List.mem_of_getElem? hx)
  refine ⟨?_, k3.sl, k2⟩
  rw [Nat.zero_add, hrow.cellAt i (by omega), List.getElem?_append_left (by simpa using hi), List.getElem?_map, hx]
  rfl

set_option maxRecDepth 100000 in
set_option maxHeartbeats 1000000 in
theorem clone16_any (a : Option Addr) (cap : Nat) (xs : List Seg) (w : World) (ha : a = none → xs = []) (hn : xs.length ≤ 65536) (hm : ∀ x ∈ xs, x.2.2.length ≤ 65536) (hs : SegsAt w a xs) :
    Calls Try.prog 16 #[.slice a xs.length cap] w (CsP xs.length w) := by
  have q35 := q35
  cases a with
  | none =>
    obtain rfl := ha rfl
    go_enter Try.func16, Try.ntmps16
    go_wp2
    go_ret
    exact ⟨_, _, [], rfl, rfl, by simp, .inl rfl, Below.refl _ _⟩
  | some x =>
    obtain ⟨i0, hi, hz0, hz1, hz2⟩ := info_parts Try.info41
    have HS := hideP hs
    have HM := hideP hm
    clear hs hm
    go_enter Try.func16, Try.ntmps16
    go_wp2_with (at_make; refine wpList_make_full _ rfl _ _ 35 rfl w.heap.size 41 i0 (.slice none 0 0) 1 Try.underlying35 hi hz0 hz1 _ _ _ _ xs.length rfl rfl rfl rfl (by rw [hz2]; omega) (by unfold maxLen; omega) (Nat.le_refl _) ?_; intro w1 hown hgrow)
    have HR0 : Hid (SgR w.heap.size xs.length 0 w w1 []) := by
      refine ⟨rfl, by simp, ?_, (Below.refl _ _).grown hgrow (Nat.le_refl _) (fun k hk => by cases hk), (hown.lt _ rfl).2⟩
      have e : (madeCells (Value.slice none 0 0).cells (xs.length * 1)).toList = List.replicate xs.length (.slice none 0 0) := by
        rw [Nat.mul_one]; exact toList_madeCells_one _ _
      rw [e] at hown
      exact hown
    clear hown hgrow
    rcases HS.out with rfl | ⟨b, off, hx, hb, hcell⟩
    · go_wp2
      refine wp_loop_rounds 1 ?_
      rw [rounds_succ]
      go_wp2
      go_ret
      exact ⟨_, _, [], rfl, rfl, by simp, .inl rfl, HR0.out.2.2.2.1⟩
    · cases hx
      have HCe := hideP hcell
      clear hcell HS
      go_wp2
      go_loopw [4] (fun i wr => ∃ (k : Nat) (ys : List Seg), k ≤ xs.length ∧ i = .int .i64 k ∧ SgR w.heap.size xs.length k w wr ys) (fun i _ => xs.length - (intOf i).toNat)
      case atStart => exact ⟨0, [], Nat.zero_le _, rfl, HR0.out⟩
      case round =>
        obtain ⟨k, ys, hk, rfl, hR⟩ := hrel
        have HR := hideP hR
        clear HR0 hR
        by_cases hlt : k < xs.length
        · obtain ⟨x, hx⟩ : ∃ x, xs[k]? = some x := ⟨xs[k], List.getElem?_eq_getElem hlt⟩
          have hxm := HM.out x (List.mem_of_getElem? hx)
          obtain ⟨g1, g2, g3⟩ := HCe.out k x hx
          obtain ⟨xa, xc, ss⟩ := x
          simp only at hxm g1 g2 g3
          have hcx : wr.cell? ⟨b, off + k, none⟩ = some (.slice xa ss.length xc) := (HR.out.2.2.2.1.cell (by exact hb)).trans g1
          have HG2 : Hid (StrSl wr xa ss) := by
            rcases g2 with h | ⟨b', o', h1, h2, h3⟩
            · exact .inl h
            · exact .inr ⟨b', o', h1, by have := HR.out.2.2.2.1.size; omega, fun i hi => (HR.out.2.2.2.1.cell (by exact h2)).trans (h3 i hi)⟩
          have HG3 := hideP g3
          have hkk : (k : Int) < (xs.length : Int) := by omega
          clear g1 g2 g3 hx
          go_wp2_with (go_at_call 26; refine (clone26_any xa xc ss wr HG3.out hxm HG2.out).mono ?_; rintro e w' ⟨a', c', rfl, k1, k2, k3⟩; obtain ⟨z1, z2, z3⟩ := HR.out.step hlt hxm k1 k2 k3 (cap := c'); have HZ := hideP z3; clear k1 k2 k3 z3)
          go_roundw
          case rel => exact ⟨k + 1, _, by omega, by go_num, HZ.out⟩
          case measure => simp [intOf]; omega
        · have hke : k = xs.length := by omega
          subst hke
          go_wp2
          go_ret
          exact ⟨some ⟨w.heap.size, 0, none⟩, xs.length, ys, by rw [HR.out.1]; rfl, HR.out.1, fun y hy => (HR.out.2.1 y hy).1, HR.out.done, HR.out.2.2.2.1⟩

end Go.Proofs.Qxb6600448a
