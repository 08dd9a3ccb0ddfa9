/-
  SEAT b6600448a: WALKS 6: 'ZZWalk' (18).
-/
import Derived.Test.Qxb6600448aWFive
import Derived.Deep.Onto
namespace Go.Proofs.Qxb6600448a
open Go.RowKit
set_option linter.unusedVariables false

theorem Try.info63 : (Try.prog.info? 63).map (fun i => (i.zero, i.size, i.bytes)) = some (some (.pointer none), 1, 8) := by kernel_rfl

/-- A row that is being filled. -/
def fill (z : Value) (L : List Value) (k : Nat) : List Value := L.take k ++ List.replicate (L.length - k) z

theorem fill_len (z : Value) (L : List Value) (k : Nat) (h : k ≤ L.length) : (fill z L k).length = L.length := by simp [fill]; omega

theorem fill_at (z : Value) (L : List Value) (k : Nat) (h : k < L.length) : (fill z L k)[k]? = some z := by
  unfold fill
  rw [List.getElem?_append_right (by simp; omega), List.getElem?_replicate, if_pos (by simp; omega)]

theorem fill_succ (z : Value) (L : List Value) (k : Nat) (x : Value) (h : L[k]? = some x) : (fill z L k).set k x = fill z L (k + 1) := by
  have hk : k < L.length := (List.getElem?_eq_some_iff.1 h).1
  apply List.ext_getElem?
  intro j
  have hl : (fill z L k).length = L.length := fill_len z L k (by omega)
  rw [List.getElem?_set]
  by_cases hj : k = j
  · subst hj
    rw [if_pos rfl, if_pos (by omega)]
    unfold fill
    rw [List.getElem?_append_left (by simp; omega), List.getElem?_take, if_pos (by omega), h]
  · rw [if_neg hj]
    unfold fill
    by_cases hj2 : j < k
    · rw [List.getElem?_append_left (by simp; omega), List.getElem?_append_left (by simp; omega)]
      simp only [List.getElem?_take, if_pos hj2, if_pos (show j < k + 1 by omega)]
    · rw [List.getElem?_append_right (by simp; omega), List.getElem?_append_right (by simp; omega)]
      simp only [List.getElem?_replicate, List.length_take]
      have e1 : min k L.length = k := by omega
      have e2 : min (k + 1) L.length = k + 1 := by omega
      rw [e1, e2]
      by_cases hj3 : j - k < L.length - k
      · rw [if_pos hj3, if_pos (by omega)]
      · rw [if_neg hj3, if_neg (by omega)]

theorem fill_all (z : Value) (L : List Value) : fill z L L.length = L := by simp [fill]

theorem fill_zero (z : Value) (L : List Value) : (madeCells #[z] (L.length * 1)).toList = fill z L 0 := by
  rw [Nat.mul_one, toList_madeCells_one]; simp [fill]

/-- The matches that stand ahead, while they are being laid. -/
def preM (ps : List Int) (k : Nat) : List M := (ps.take k).map (fun i => (i, (⟨#[]⟩ : ByteArray))) ++ List.replicate (ps.length - k) (0, ⟨#[]⟩)

theorem preM_len (ps : List Int) (k : Nat) (h : k ≤ ps.length) : (preM ps k).length = ps.length := by simp [preM]; omega
theorem preM_all (ps : List Int) : preM ps ps.length = ps.map (fun i => (i, (⟨#[]⟩ : ByteArray))) := by simp [preM]
theorem preM_zero (ps : List Int) : preM ps 0 = List.replicate ps.length (0, ⟨#[]⟩) := by simp [preM]
theorem preM_cut (ps : List Int) (k : Nat) (x : Int) (h : ps[k]? = some x) : preM ps k = (ps.take k).map (fun i => (i, (⟨#[]⟩ : ByteArray))) ++ (0, ⟨#[]⟩) :: List.replicate (ps.length - (k + 1)) (0, ⟨#[]⟩) := by
  have hk : k < ps.length := (List.getElem?_eq_some_iff.1 h).1
  unfold preM
  rw [show ps.length - k = (ps.length - (k + 1)) + 1 by omega, List.replicate_succ]
theorem preM_succ (ps : List Int) (k : Nat) (x : Int) (h : ps[k]? = some x) : preM ps (k + 1) = (ps.take k).map (fun i => (i, (⟨#[]⟩ : ByteArray))) ++ (x, ⟨#[]⟩) :: List.replicate (ps.length - (k + 1)) (0, ⟨#[]⟩) := by
  unfold preM
  rw [List.take_add_one, h]
  simp

theorem madeThree (a b c : Value) : ∀ n : Nat, (madeCells #[a, b, c] (n * 3)).toList = (List.replicate n [a, b, c]).flatten := by
  intro n
  induction n with
  | zero => simp [madeCells]
  | succ n ih =>
    have h1 : (madeCells #[a, b, c] ((n + 1) * 3)).toList = (madeCells #[a, b, c] (n * 3)).toList ++ [a, b, c] := by
      unfold madeCells
      rw [show (n + 1) * 3 = n * 3 + 1 + 1 + 1 by omega, Array.range_succ, Array.range_succ, Array.range_succ]
      have m0 : n * 3 % 3 = 0 := by omega
      have m1 : (n * 3 + 1) % 3 = 1 := by omega
      have m2 : (n * 3 + 1 + 1) % 3 = 2 := by omega
      simp [m0, m1, m2]
    rw [h1, ih, List.replicate_succ', List.flatten_append]
    simp

theorem rowOf_made (n : Nat) : (madeCells (Value.agg #[.int .i64 0, .pointer none, .string ⟨#[]⟩]).cells (n * 3)).toList = rowOf (List.replicate n (0, ⟨#[]⟩)) := by
  show (madeCells #[.int .i64 0, .pointer none, .string ⟨#[]⟩] (n * 3)).toList = _
  rw [madeThree]
  induction n with
  | zero => rfl
  | succ n ih =>
    rw [List.replicate_succ, List.replicate_succ, List.flatten_cons, ih]
    rfl

theorem set1 {w : World} {base g c n : Nat} {A R : List M} {x : M} (y : Int) (h : w.ownsRow base 65 3 (.slice (some ⟨g, 0, none⟩) n c) n (rowOf (A ++ x :: R))) :
    (w.setCell ⟨g, A.length * 3, none⟩ (.int .i64 y)).ownsRow base 65 3 (.slice (some ⟨g, 0, none⟩) n c) n (rowOf (A ++ (y, x.2) :: R)) := by
  have h1 := (h.stored (A.length * 3) (.int .i64 y)).1
  rw [rowOf_cut, ← rowOf_length A, List.set_append_right _ _ (Nat.le_refl _)] at h1
  rw [rowOf_cut, ← rowOf_length A]
  simpa using h1

def WzP (w : World) (L : List Int) (e : Ending) (w' : World) : Prop := ∃ v', e = .returned v' ∧ w'.ownsRow w.heap.size 3 1 v' L.length (L.map (.int .i64)) ∧ Below w.heap.size w w'

/-- Ints in memory. -/
def IntsAt (w : World) (v : Value) (ps : List Int) : Prop := (v = .slice none 0 0 ∧ ps = []) ∨ ∃ b off cap, v = .slice (some ⟨b, off, none⟩) ps.length cap ∧ b < w.heap.size ∧ ∀ i x, ps[i]? = some x → w.cell? ⟨b, off + i, none⟩ = some (.int .i64 x)

theorem forms {w : World} {base size n : Nat} {e : TypeId} {v : Value} {xs : List Value} (h : w.ownsRow base e size v n xs) : (v = .slice none 0 0 ∧ n = 0) ∨ ∃ g cap, v = .slice (some ⟨g, 0, none⟩) n cap := by
  rcases h.2 with h1 | ⟨g, c, cur, h1, _⟩
  · exact .inl h1
  · exact .inr ⟨g, c, h1⟩

/-- The world with the lookup laid. -/
def lkW (w w1 : World) (n : Nat) (path : ByteArray) (q : Int) : World := (w1.alloc (.cells #[.slice (some ⟨w.heap.size, 0, none⟩) n n, .pointer none, .map none] 59)).alloc (.cells #[.pointer (some ⟨w1.heap.size, 0, none⟩), .string path, .int .i64 q] 61)

theorem lk_mk {w w1 : World} {n : Nat} {frm : Nat} {q : Int} (hq : q = frm) {path : ByteArray} (hgrow : w.grownBy w1 none) (hown : w1.ownsRow w.heap.size 63 1 (.slice (some ⟨w.heap.size, 0, none⟩) n n) n (madeCells (Value.pointer none).cells (n * 1)).toList) :
    LkAt (lkW w w1 n path q) (w1.heap.size + 1) w1.heap.size w.heap.size frm path n ∧ Below w.heap.size w (lkW w w1 n path q) := by
  subst hq
  have hlt := hown.lt w.heap.size rfl
  have hb : Below w1.heap.size w1 (lkW w w1 n path frm) := ((Below.refl _ _).alloc (Nat.le_refl _) _).alloc (by simp) _
  refine ⟨⟨?_, ?_, ?_, ?_, fun i hi => ?_, ?_⟩, ?_⟩
  · simp [lkW]
  · simp [lkW]
  · simp [lkW]
  · simp [lkW]
  · have e : (madeCells (Value.pointer none).cells (n * 1)).toList = List.replicate n (.pointer none) := by
      rw [Nat.mul_one]; exact toList_madeCells_one _ n
    rw [e] at hown
    have h1 : w1.cell? ⟨w.heap.size, i, none⟩ = some (.pointer none) := by
      rw [hown.cellAt i (by omega), List.getElem?_replicate, if_pos hi]
    exact (hb.cell (by exact hlt.2)).trans h1
  · simp [lkW]; omega
  · have h1 : Below w.heap.size w w1 := (Below.refl _ _).grown hgrow (Nat.le_refl _) (fun k hk => by cases hk)
    exact h1.trans (hb.mono h1.size)

theorem lk_size (w : World) (a c : Obj) : ((w.alloc a).alloc c).heap.size = w.heap.size + 1 + 1 := by simp

set_option maxRecDepth 100000 in
set_option maxHeartbeats 2000000 in
theorem zzwalk_of (W0 : World) (n b bd : Nat) (path : ByteArray) (ys : List Int) (hW : WkC W0 n b path false bd ys) (hn : n ≤ 65536) (hbd : bd ≤ 65536) (hys : ys.length ≤ bd) (w : World) (h0 : Below W0.heap.size W0 w) (pv : Value) (ps : List Int) (hp : IntsAt w pv ps) (hpl : ps.length ≤ 65536) :
    Calls Try.prog 18 #[.pointer (some ⟨b, 0, none⟩), .int .i64 n, .string path, pv] w (WzP w ((addAll ps.length path (ps.map fun i => (i, ⟨#[]⟩)) ys).map (·.1))) := by
  obtain ⟨i63, hi63, hz630, hz631, hz632⟩ := info_parts Try.info63
  obtain ⟨i65, hi65, hz650, hz651, hz652⟩ := info_parts Try.info65
  obtain ⟨i3, hi3, hz30, hz31, hz32⟩ := info_parts Try.info3
  have HW := hideP hW
  have H0 := hideP h0
  have HP := hideP hp
  clear hW h0 hp
  rcases HP.out with ⟨rfl, rfl⟩ | ⟨pb, po, pc, rfl, hpb, hpc⟩
  · go_enter Try.func18, Try.ntmps18
    go_wp2_with (first
      | (at_make; refine wpList_make_full _ rfl _ _ 57 rfl w.heap.size 63 i63 (.pointer none) 1 Try.underlying57 hi63 hz630 hz631 _ _ _ _ n rfl rfl rfl rfl (by rw [hz632]; omega) (by unfold maxLen; omega) (Nat.le_refl _) ?_; intro w1 hown1 hgrow1; have HLk := hideP (lk_mk (w := w) (w1 := w1) (n := n) (frm := 0) (q := 0) rfl (path := path) hgrow1 hown1))
      | (at_make; refine wpList_make_full _ rfl _ _ 62 rfl (lkW w w1 n path 0).heap.size 65 i65 (.agg #[.int .i64 0, .pointer none, .string ⟨#[]⟩]) 3 Try.underlying62 hi65 hz650 hz651 _ _ _ _ 0 rfl rfl rfl rfl (by rw [hz652]; omega) (by unfold maxLen; omega) (Nat.le_refl _) ?_; intro w2 hown2 hgrow2; rw [rowOf_made, lk_size] at hown2; have HO2 := hideP hown2; have HB2 : Hid (Below (lkW w w1 n path 0).heap.size (lkW w w1 n path 0) w2) := (Below.refl _ _).grown hgrow2 (Nat.le_refl _) (fun k hk => by cases hk); clear hown1 hgrow1 hown2 hgrow2))
    have HL := hideP HLk.out.1
    have HBl := hideP HLk.out.2
    clear HLk
    generalize lkW w w1 n path 0 = Wl at HL HBl HO2 HB2
    have H0l : Hid (Below W0.heap.size W0 Wl) := H0.out.trans (HBl.out.mono H0.out.size)
    refine wp_loop_rounds 1 ?_
    rw [rounds_succ]
    go_wp2_with fail
    refine (HW.out Wl (w1.heap.size + 1) w1.heap.size w.heap.size 0 path H0l.out HL.out (([] : List Int).map fun i => (i, (⟨#[]⟩ : ByteArray))) _ _ HB2.out HO2.out (by simp) (by simp; omega)).mono ?_
    rintro e w3 ⟨v3, rfl, k1, k2⟩
    have hGl : (addAll 0 path (([] : List Int).map fun i => (i, (⟨#[]⟩ : ByteArray))) ys).length ≤ 131072 := by rw [addAll_length]; simp; omega
    generalize hGE : addAll 0 path (([] : List Int).map fun i => (i, (⟨#[]⟩ : ByteArray))) ys = G at k1 hGl
    have HGE := hideP hGE
    clear hGE
    have HK1 := hideP k1
    have HB3 : Hid (Below w.heap.size w w3) := HBl.out.trans (k2.mono HBl.out.size)
    have hsz3 : w.heap.size ≤ w3.heap.size := HB3.out.size
    clear k1 k2 HO2 HB2
    rcases forms HK1.out with ⟨rfl, hG0⟩ | ⟨g3, c3, rfl⟩
    · have hGn : G = [] := List.eq_nil_of_length_eq_zero hG0
      subst hGn
      go_wp2_with (at_make; refine wpList_make_full _ rfl _ _ 27 rfl w3.heap.size 3 i3 (.int .i64 0) 1 Try.underlying27 hi3 hz30 hz31 _ _ _ _ 0 rfl rfl rfl rfl (by rw [hz32]; omega) (by unfold maxLen; omega) (Nat.le_refl _) ?_; intro w4 hown4 hgrow4)
      have HB4 : Hid (Below w3.heap.size w3 w4) := (Below.refl _ _).grown hgrow4 (Nat.le_refl _) (fun k hk => by cases hk)
      have HO4 : Hid (w4.ownsRow w3.heap.size 3 1 (.slice (some ⟨w3.heap.size, 0, none⟩) 0 0) 0 []) := by
        have e : (madeCells (Value.int IntKind.i64 0).cells (0 * 1)).toList = [] := by simp [madeCells]
        rw [e] at hown4
        exact hown4
      clear hown4 hgrow4
      go_wp2
      refine wp_loop_rounds 1 ?_
      rw [rounds_succ]
      go_wp2
      go_ret
      refine ⟨_, rfl, ?_, HB3.out.trans (HB4.out.mono hsz3)⟩
      rw [HGE.out]
      exact HO4.out.mono hsz3
    · have HCe : Hid (∀ j x, G[j]? = some x → w3.cell? ⟨g3, j * 3, none⟩ = some (.int .i64 x.1)) := by
        intro j x hj
        have hjl : j < G.length := (List.getElem?_eq_some_iff.1 hj).1
        have hx : G[j] = x := by rw [List.getElem?_eq_getElem hjl] at hj; simpa using hj
        have e : G = G.take j ++ x :: G.drop (j + 1) := by rw [← hx, List.getElem_cons_drop, List.take_append_drop]
        have h1 := HK1.out
        rw [e] at h1
        have h2 := (cells_at (n := G.length) (by rw [← e] at h1 ⊢; exact h1)).1
        rw [List.length_take, Nat.min_eq_left (by omega)] at h2
        exact h2
      have hg3 : g3 < w3.heap.size := (HK1.out.lt g3 rfl).2
      clear HK1
      go_wp2_with (at_make; refine wpList_make_full _ rfl _ _ 27 rfl w3.heap.size 3 i3 (.int .i64 0) 1 Try.underlying27 hi3 hz30 hz31 _ _ _ _ G.length rfl rfl rfl rfl (by rw [hz32]; omega) (by unfold maxLen; omega) (Nat.le_refl _) ?_; intro w4 hown4 hgrow4)
      have HB4 : Hid (Below w3.heap.size w3 w4) := (Below.refl _ _).grown hgrow4 (Nat.le_refl _) (fun k hk => by cases hk)
      have HO4 : Hid (w4.ownsRow w3.heap.size 3 1 (.slice (some ⟨w3.heap.size, 0, none⟩) G.length G.length) G.length (fill (.int .i64 0) ((G.map (·.1)).map (.int .i64)) 0)) := by
        have h := fill_zero (.int .i64 0) ((G.map (·.1)).map (Value.int .i64))
        rw [List.length_map, List.length_map] at h
        rw [← h]
        exact hown4
      clear hown4 hgrow4
      go_wp2
      go_loopw [13, 50] (fun _ jv wr => ∃ j : Nat, j ≤ G.length ∧ jv = .int .i64 j ∧ wr.ownsRow w3.heap.size 3 1 (.slice (some ⟨w3.heap.size, 0, none⟩) G.length G.length) G.length (fill (.int .i64 0) ((G.map (·.1)).map (.int .i64)) j) ∧ Below w3.heap.size w3 wr) (fun _ jv _ => G.length - (intOf jv).toNat)
      case atStart => exact ⟨0, Nat.zero_le _, rfl, HO4.out, HB4.out⟩
      case round =>
        obtain ⟨j, hj, rfl, hown, hbr⟩ := hrel
        clear HO4 HB4
        by_cases hlt : j < G.length
        · obtain ⟨x, hx⟩ : ∃ x, G[j]? = some x := ⟨G[j], List.getElem?_eq_getElem hlt⟩
          have q1 : wr.cell? ⟨g3, j * 3, none⟩ = some (.int .i64 x.1) := (hbr.cell (by exact hg3)).trans (HCe.out j x hx)
          have q2 : wr.cell? ⟨w3.heap.size, j, none⟩ = some (.int .i64 0) := by rw [hown.cellAt j (by omega)]; exact fill_at _ _ j (by simpa using hlt)
          have q3 : wr.frozen? ⟨w3.heap.size, j, none⟩ = false := hown.frozenAt j
          have hst := (hown.stored j (.int .i64 x.1)).1
          rw [fill_succ _ _ j (.int .i64 x.1) (by simp [hx])] at hst
          have HS := hideP hst
          have HB5 : Hid (Below w3.heap.size w3 (wr.setCell ⟨w3.heap.size, j, none⟩ (.int .i64 x.1))) := hbr.setCell (by exact Nat.le_refl _) _
          have hjj : (j : Int) < (G.length : Int) := by omega
          clear hst hown hbr hx
          go_wp2
          go_roundw
          case rel => exact ⟨j + 1, by omega, by go_num, HS.out, HB5.out⟩
          case measure => simp [intOf]; omega
        · have hje : j = G.length := by omega
          have e := fill_all (.int .i64 0) ((G.map (·.1)).map (Value.int .i64))
          rw [List.length_map, List.length_map] at e
          rw [hje, e] at hown
          have HS := hideP hown
          have HB5 := hideP hbr
          clear hown hbr e hje
          go_wp2
          go_ret
          refine ⟨_, rfl, ?_, HB3.out.trans (HB5.out.mono hsz3)⟩
          rw [HGE.out, List.length_map]
          exact HS.out.mono hsz3
  · go_enter Try.func18, Try.ntmps18
    go_wp2_with (first
      | (at_make; refine wpList_make_full _ rfl _ _ 57 rfl w.heap.size 63 i63 (.pointer none) 1 Try.underlying57 hi63 hz630 hz631 _ _ _ _ n rfl rfl rfl rfl (by rw [hz632]; omega) (by unfold maxLen; omega) (Nat.le_refl _) ?_; intro w1 hown1 hgrow1; have HLk := hideP (lk_mk (w := w) (w1 := w1) (n := n) (frm := ps.length) (q := ps.length) rfl (path := path) hgrow1 hown1))
      | (at_make; refine wpList_make_full _ rfl _ _ 62 rfl (lkW w w1 n path ps.length).heap.size 65 i65 (.agg #[.int .i64 0, .pointer none, .string ⟨#[]⟩]) 3 Try.underlying62 hi65 hz650 hz651 _ _ _ _ ps.length rfl rfl rfl rfl (by rw [hz652]; omega) (by unfold maxLen; omega) (Nat.le_refl _) ?_; intro w2 hown2 hgrow2; rw [rowOf_made, lk_size] at hown2; have HO2 := hideP hown2; have HB2 : Hid (Below (lkW w w1 n path ps.length).heap.size (lkW w w1 n path ps.length) w2) := (Below.refl _ _).grown hgrow2 (Nat.le_refl _) (fun k hk => by cases hk); clear hown1 hgrow1 hown2 hgrow2))
    have HL := hideP HLk.out.1
    have HBl := hideP HLk.out.2
    clear HLk
    generalize lkW w w1 n path ps.length = Wl at HL HBl HO2 HB2
    have H0l : Hid (Below W0.heap.size W0 Wl) := H0.out.trans (HBl.out.mono H0.out.size)
    have HPC := hideP hpc
    clear hpc
    go_loopw [11, 28] (fun _ jv wr => ∃ j : Nat, j ≤ ps.length ∧ jv = .int .i64 j ∧ wr.ownsRow Wl.heap.size 65 3 (.slice (some ⟨w1.heap.size + 1 + 1, 0, none⟩) ps.length ps.length) ps.length (rowOf (preM ps j)) ∧ Below Wl.heap.size Wl wr) (fun _ jv _ => ps.length - (intOf jv).toNat)
    case atStart => exact ⟨0, Nat.zero_le _, rfl, by rw [preM_zero]; exact HO2.out, HB2.out⟩
    case round =>
      obtain ⟨j, hj, rfl, hown, hbr⟩ := hrel
      by_cases hlt : j < ps.length
      · obtain ⟨x, hx⟩ : ∃ x, ps[j]? = some x := ⟨ps[j], List.getElem?_eq_getElem hlt⟩
        have q1 : wr.cell? ⟨pb, po + j, none⟩ = some (.int .i64 x) := ((HBl.out.trans (hbr.mono HBl.out.size)).cell (by exact hpb)).trans (HPC.out j x hx)
        have hlen : ((ps.take j).map (fun i => (i, (⟨#[]⟩ : ByteArray)))).length = j := by simp; omega
        rw [preM_cut ps j x hx] at hown
        have q2 := (cells_at hown).1
        have q3 := hown.frozenAt (j * 3)
        have hst := set1 x hown
        rw [hlen] at q2 hst
        rw [← preM_succ ps j x hx] at hst
        have HS := hideP hst
        have HB5 : Hid (Below Wl.heap.size Wl (wr.setCell ⟨w1.heap.size + 1 + 1, j * 3, none⟩ (.int .i64 x))) := hbr.setCell (by exact (hown.lt _ rfl).1) _
        have hjj : (j : Int) < (ps.length : Int) := by omega
        clear hst hown hbr hx hlen HO2 HB2
        go_wp2
        go_roundw
        case rel => exact ⟨j + 1, by omega, by go_num, HS.out, HB5.out⟩
        case measure => simp [intOf]; omega
      · have hje : j = ps.length := by omega
        rw [hje, preM_all] at hown
        have HO5 : Hid (wr.ownsRow Wl.heap.size 65 3 (.slice (some ⟨w1.heap.size + 1 + 1, 0, none⟩) ps.length ps.length) (ps.map fun i => (i, (⟨#[]⟩ : ByteArray))).length (rowOf (ps.map fun i => (i, (⟨#[]⟩ : ByteArray))))) := by rw [List.length_map]; exact hown
        have HB5 := hideP hbr
        clear hown hbr hje
        go_wp2_with fail
        refine (HW.out Wl (w1.heap.size + 1) w1.heap.size w.heap.size ps.length path H0l.out HL.out (ps.map fun i => (i, (⟨#[]⟩ : ByteArray))) _ _ HB5.out HO5.out (by simp) (by simp; omega)).mono ?_
        rintro e w3 ⟨v3, rfl, k1, k2⟩
        have hGl : (addAll ps.length path (ps.map fun i => (i, (⟨#[]⟩ : ByteArray))) ys).length ≤ 131072 := by rw [addAll_length]; simp; omega
        generalize hGE : addAll ps.length path (ps.map fun i => (i, (⟨#[]⟩ : ByteArray))) ys = G at k1 hGl
        have HGE := hideP hGE
        clear hGE
        have HK1 := hideP k1
        have HB3 : Hid (Below w.heap.size w w3) := HBl.out.trans (k2.mono HBl.out.size)
        have hsz3 : w.heap.size ≤ w3.heap.size := HB3.out.size
        clear k1 k2 HO2 HB2
        rcases forms HK1.out with ⟨rfl, hG0⟩ | ⟨g3, c3, rfl⟩
        · have hGn : G = [] := List.eq_nil_of_length_eq_zero hG0
          subst hGn
          go_wp2_with (at_make; refine wpList_make_full _ rfl _ _ 27 rfl w3.heap.size 3 i3 (.int .i64 0) 1 Try.underlying27 hi3 hz30 hz31 _ _ _ _ 0 rfl rfl rfl rfl (by rw [hz32]; omega) (by unfold maxLen; omega) (Nat.le_refl _) ?_; intro w4 hown4 hgrow4)
          have HB4 : Hid (Below w3.heap.size w3 w4) := (Below.refl _ _).grown hgrow4 (Nat.le_refl _) (fun k hk => by cases hk)
          have HO4 : Hid (w4.ownsRow w3.heap.size 3 1 (.slice (some ⟨w3.heap.size, 0, none⟩) 0 0) 0 []) := by
            have e : (madeCells (Value.int IntKind.i64 0).cells (0 * 1)).toList = [] := by simp [madeCells]
            rw [e] at hown4
            exact hown4
          clear hown4 hgrow4
          go_wp2
          refine wp_loop_rounds 1 ?_
          rw [rounds_succ]
          go_wp2
          go_ret
          refine ⟨_, rfl, ?_, HB3.out.trans (HB4.out.mono hsz3)⟩
          rw [HGE.out]
          exact HO4.out.mono hsz3
        · have HCe : Hid (∀ j x, G[j]? = some x → w3.cell? ⟨g3, j * 3, none⟩ = some (.int .i64 x.1)) := by
            intro j x hj
            have hjl : j < G.length := (List.getElem?_eq_some_iff.1 hj).1
            have hx : G[j] = x := by rw [List.getElem?_eq_getElem hjl] at hj; simpa using hj
            have e : G = G.take j ++ x :: G.drop (j + 1) := by rw [← hx, List.getElem_cons_drop, List.take_append_drop]
            have h1 := HK1.out
            rw [e] at h1
            have h2 := (cells_at (n := G.length) (by rw [← e] at h1 ⊢; exact h1)).1
            rw [List.length_take, Nat.min_eq_left (by omega)] at h2
            exact h2
          have hg3 : g3 < w3.heap.size := (HK1.out.lt g3 rfl).2
          clear HK1
          go_wp2_with (at_make; refine wpList_make_full _ rfl _ _ 27 rfl w3.heap.size 3 i3 (.int .i64 0) 1 Try.underlying27 hi3 hz30 hz31 _ _ _ _ G.length rfl rfl rfl rfl (by rw [hz32]; omega) (by unfold maxLen; omega) (Nat.le_refl _) ?_; intro w4 hown4 hgrow4)
          have HB4 : Hid (Below w3.heap.size w3 w4) := (Below.refl _ _).grown hgrow4 (Nat.le_refl _) (fun k hk => by cases hk)
          have HO4 : Hid (w4.ownsRow w3.heap.size 3 1 (.slice (some ⟨w3.heap.size, 0, none⟩) G.length G.length) G.length (fill (.int .i64 0) ((G.map (·.1)).map (.int .i64)) 0)) := by
            have h := fill_zero (.int .i64 0) ((G.map (·.1)).map (Value.int .i64))
            rw [List.length_map, List.length_map] at h
            rw [← h]
            exact hown4
          clear hown4 hgrow4
          go_wp2
          go_loopw [13, 50] (fun _ jv wr => ∃ j : Nat, j ≤ G.length ∧ jv = .int .i64 j ∧ wr.ownsRow w3.heap.size 3 1 (.slice (some ⟨w3.heap.size, 0, none⟩) G.length G.length) G.length (fill (.int .i64 0) ((G.map (·.1)).map (.int .i64)) j) ∧ Below w3.heap.size w3 wr) (fun _ jv _ => G.length - (intOf jv).toNat)
          case atStart => exact ⟨0, Nat.zero_le _, rfl, HO4.out, HB4.out⟩
          case round =>
            obtain ⟨j, hj, rfl, hown, hbr⟩ := hrel
            clear HO4 HB4
            by_cases hlt : j < G.length
            · obtain ⟨x, hx⟩ : ∃ x, G[j]? = some x := ⟨G[j], List.getElem?_eq_getElem hlt⟩
              have q1 : wr.cell? ⟨g3, j * 3, none⟩ = some (.int .i64 x.1) := (hbr.cell (by exact hg3)).trans (HCe.out j x hx)
              have q2 : wr.cell? ⟨w3.heap.size, j, none⟩ = some (.int .i64 0) := by rw [hown.cellAt j (by omega)]; exact fill_at _ _ j (by simpa using hlt)
              have q3 : wr.frozen? ⟨w3.heap.size, j, none⟩ = false := hown.frozenAt j
              have hst := (hown.stored j (.int .i64 x.1)).1
              rw [fill_succ _ _ j (.int .i64 x.1) (by simp [hx])] at hst
              have HS := hideP hst
              have HB5 : Hid (Below w3.heap.size w3 (wr.setCell ⟨w3.heap.size, j, none⟩ (.int .i64 x.1))) := hbr.setCell (by exact Nat.le_refl _) _
              have hjj : (j : Int) < (G.length : Int) := by omega
              clear hst hown hbr hx
              go_wp2
              go_roundw
              case rel => exact ⟨j + 1, by omega, by go_num, HS.out, HB5.out⟩
              case measure => simp [intOf]; omega
            · have hje : j = G.length := by omega
              have e := fill_all (.int .i64 0) ((G.map (·.1)).map (Value.int .i64))
              rw [List.length_map, List.length_map] at e
              rw [hje, e] at hown
              have HS := hideP hown
              have HB5 := hideP hbr
              clear hown hbr e hje
              go_wp2
              go_ret
              refine ⟨_, rfl, ?_, HB3.out.trans (HB5.out.mono hsz3)⟩
              rw [HGE.out, List.length_map]
              exact HS.out.mono hsz3

end Go.Proofs.Qxb6600448a
