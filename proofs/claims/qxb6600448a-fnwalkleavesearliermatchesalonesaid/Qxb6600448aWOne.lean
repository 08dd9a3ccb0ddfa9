/-
  SEAT b6600448a: WALKS 1: 'child' (30).
-/
import Derived.Test.Qxb6600448aRuns
import Derived.WalkSpells
import Derived.WalkLawsBesides
import Derived.BigQuiet
import Derived.Deep.QuietTactic
namespace Go.Proofs.Qxb6600448a
open Go.RowKit
set_option linter.unusedVariables false

theorem NodeAt.at {B : Nat} {nT : Int} {w : World} {N : List Nat} {P : Nat → List Step} {O : Nat → Nat} {b : Nat} {r : Option Nat} {p1 p2 : Option Addr} {v : Value} {E : List Int} (h : NodeAt B nT w N P O b r p1 p2 v E) :
    w.cell? ⟨b, 0, none⟩ = some (.map r) ∧ w.cell? ⟨b, 1, none⟩ = some (.pointer p1) ∧ w.cell? ⟨b, 2, none⟩ = some (.pointer p2) ∧ w.cell? ⟨b, 3, none⟩ = some v ∧ ∀ j, w.frozen? ⟨b, j, none⟩ = false := by
  refine ⟨?_, ?_, ?_, ?_, fun j => frozen_of_row w b j _ 51 h.cells⟩ <;> (rw [cell_of_row w b _ _ 51 (0, 0) h.cells]; rfl)

def ChP (B : Nat) (nT : Int) (k : Nat) (N : List Nat) (w : World) (e : Ending) (w' : World) : Prop :=
  ∃ c N' P' O', e = .returned (.pointer (some ⟨c, 0, none⟩)) ∧ Inv B nT k w' N' P' O' ∧ c ∈ N' ∧ (∀ x ∈ N, x ∈ N') ∧ Below B w w' ∧ w.heap.size ≤ w'.heap.size

theorem ChP.field {B : Nat} {nT : Int} {k : Nat} {w : World} {N : List Nat} {P : Nat → List Step} {O : Nat → Nat} {b j : Nat} (hj : j = 1 ∨ j = 2) (hb : b ∈ N) (h : Inv B nT k w N P O) (hB : B ≤ w.heap.size) (o : Obj) :
    ChP B nT k N w (.returned (.pointer (some ⟨w.heap.size + 1, 0, none⟩))) (((w.setCell ⟨b, j, none⟩ (.pointer (some ⟨w.heap.size + 1, 0, none⟩))).alloc o).alloc (.cells #[.map none, .pointer none, .pointer none, .slice none 0 0] 51)) := by
  have hbl := (h.lt b hb).2
  have h1 := h.keep ((Below.refl _ _).alloc (Nat.le_refl _) o)
  have hsz : (w.alloc o).heap.size = w.heap.size + 1 := by simp
  have h2 := h1.newNode (by rw [hsz]; omega) (P b ++ [(j, [])])
  rw [hsz] at h2
  have hPb : setP P (w.heap.size + 1) (P b ++ [(j, [])]) b = P b := setP_other _ _ (by omega)
  have h3 := h2.setField (c := w.heap.size + 1) hj (show b ∈ N ++ [w.heap.size + 1] by simp [hb]) (by simp) (by rw [setP_same, hPb])
  have e1 : ((w.alloc o).alloc emptyNode).setCell ⟨b, j, none⟩ (.pointer (some ⟨w.heap.size + 1, 0, none⟩)) = ((w.setCell ⟨b, j, none⟩ (.pointer (some ⟨w.heap.size + 1, 0, none⟩))).alloc o).alloc emptyNode := by
    rw [World.setCell_alloc_past _ _ _ _ (by rw [hsz]; omega), World.setCell_alloc_past _ _ _ _ hbl]
  rw [e1] at h3
  refine ⟨_, _, _, _, rfl, h3, by simp, fun x hx => by simp [hx], ?_, by simp; omega⟩
  exact ((((Below.refl _ _).setCell (by exact (h.lt b hb).1) _).alloc (by simpa using hB) _).alloc (by simp; omega) _)

theorem ChP.there {B : Nat} {nT : Int} {k : Nat} {w w' : World} {N : List Nat} {P : Nat → List Step} {O : Nat → Nat} (h : Inv B nT k w N P O) (hB : B ≤ w.heap.size) {c : Nat} (hc : c ∈ N) (hb : Below w.heap.size w w') :
    ChP B nT k N w (.returned (.pointer (some ⟨c, 0, none⟩))) w' :=
  ⟨c, N, P, O, rfl, h.keep hb, hc, fun _ hx => hx, hb.mono hB, hb.size⟩

set_option maxHeartbeats 1000000 in
theorem child_field (B : Nat) (nT : Int) (k : Nat) (w : World) (N : List Nat) (P : Nat → List Step) (O : Nat → Nat) (b : Nat) (hb : b ∈ N) (kind : Int) (hkind : kind = 1 ∨ kind = 2) (text : ByteArray) (h : Inv B nT k w N P O) (hB : B ≤ w.heap.size) :
    Calls Try.prog 30 #[.pointer (some ⟨b, 0, none⟩), .agg #[.int .i64 kind, .string text]] w (ChP B nT k N w) := by
  obtain ⟨r, p1, p2, v, E, hn⟩ := h.node b hb
  obtain ⟨c0, c1, c2, c3, cf⟩ := hn.at
  have hbl := (h.lt b hb).2
  have HI := hideP h
  have HW := hideP hn.wild
  have HD := hideP hn.deep
  clear h hn
  rcases hkind with rfl | rfl
  · cases p1 with
    | none =>
      go_enter Try.func30, Try.ntmps30
      go_wp2
      go_ret
      exact ChP.field (.inl rfl) hb HI.out hB _
    | some a =>
      obtain ⟨c, hc, rfl, _⟩ := HW.out a rfl
      go_enter Try.func30, Try.ntmps30
      go_wp2
      go_ret
      exact ChP.there HI.out hB hc ((Below.refl _ _).alloc (Nat.le_refl _) _)
  · cases p2 with
    | none =>
      go_enter Try.func30, Try.ntmps30
      go_wp2
      go_ret
      exact ChP.field (.inr rfl) hb HI.out hB _
    | some a =>
      obtain ⟨c, hc, rfl, _⟩ := HD.out a rfl
      go_enter Try.func30, Try.ntmps30
      go_wp2
      go_ret
      exact ChP.there HI.out hB hc ((Below.refl _ _).alloc (Nat.le_refl _) _)

/-- The world in which a new literal child is laid into the node's new map: the box of the segment, the map, the node. -/
abbrev litW (w : World) (b : Nat) (kind : Int) (text : ByteArray) (nq : Nat) : World :=
  ((((w.alloc (.cells #[.int .i64 kind, .string text] 70)).drewN nq).setCell ⟨b, 0, none⟩ (.map (some (w.heap.size + 1)))).alloc (.map #[] 0)).alloc (.cells #[.map none, .pointer none, .pointer none, .slice none 0 0] 51)

theorem lit_none {B : Nat} {nT : Int} {k : Nat} {w : World} {N : List Nat} {P : Nat → List Step} {O : Nat → Nat} {b : Nat} (h : Inv B nT k w N P O) (hb : b ∈ N) (hB : B ≤ w.heap.size) (c0 : w.cell? ⟨b, 0, none⟩ = some (.map none)) (kind : Int) (text : ByteArray) (nq : Nat) :
    ∃ N' P' O', Inv B nT k (litW w b kind text nq) N' P' O' ∧ b ∈ N' ∧ w.heap.size + 1 + 1 ∈ N' ∧ (∀ x ∈ N, x ∈ N') ∧ P' (w.heap.size + 1 + 1) = P' b ++ [(0, text.data.toList)] ∧
      (litW w b kind text nq).cell? ⟨b, 0, none⟩ = some (.map (some (w.heap.size + 1))) ∧ (litW w b kind text nq).cell? ⟨w.heap.size, 1, none⟩ = some (.string text) ∧ Below B w (litW w b kind text nq) ∧ w.heap.size ≤ (litW w b kind text nq).heap.size := by
  have hbl := (h.lt b hb).2
  have hsz : ((w.alloc (.cells #[.int .i64 kind, .string text] 70)).drewN nq).heap.size = w.heap.size + 1 := by simp
  have hI1 := h.keep (below_drewN ((Below.refl _ _).alloc (Nat.le_refl _) (.cells #[.int .i64 kind, .string text] 70)) nq)
  have hI2 := hI1.setMap (by rw [hsz]; omega) hb
  rw [World.setCell_alloc_past _ _ _ _ (by rw [hsz]; omega), hsz] at hI2
  have hI3 := hI2.newNode (by simp; omega) (P b ++ [(0, text.data.toList)])
  rw [show ((((w.alloc (.cells #[.int .i64 kind, .string text] 70)).drewN nq).setCell ⟨b, 0, none⟩ (.map (some (w.heap.size + 1)))).alloc (.map #[] 0)).heap.size = w.heap.size + 1 + 1 by simp] at hI3
  refine ⟨_, _, _, hI3, by simp [hb], by simp, fun x hx => by simp [hx], ?_, ?_, ?_, ?_, by simp; omega⟩
  · rw [setP_same, setP_other _ _ (by omega)]
  · rw [World.cell?_alloc_past _ _ _ (by simp; omega), World.cell?_alloc_past _ _ _ (by simp; omega)]
    refine World.cell?_setCell_same (u := .map none) _ _ _ ?_
    rw [World.cell?_drewN, World.cell?_alloc_past _ _ _ (by exact hbl)]; exact c0
  · rw [World.cell?_alloc_past _ _ _ (by simp; omega), World.cell?_alloc_past _ _ _ (by simp), World.cell?_setCell_other _ _ _ _ (by intro e; simp at e), World.cell?_drewN, World.cell?_alloc_at _ _ _ _ rfl]; rfl
  · exact ((((below_drewN ((Below.refl _ _).alloc hB _) nq).setCell (by exact (h.lt b hb).1) _).alloc (by simp; omega) _).alloc (by simp; omega) _)

theorem lit_some {B : Nat} {nT : Int} {k : Nat} {w : World} {N : List Nat} {P : Nat → List Step} {O : Nat → Nat} {b m : Nat} (h : Inv B nT k w N P O) (hb : b ∈ N) (hB : B ≤ w.heap.size) (c0 : w.cell? ⟨b, 0, none⟩ = some (.map (some m))) (kind : Int) (text : ByteArray) (nq : Nat) :
    ∃ N' P' O' W, W = ((w.alloc (.cells #[.int .i64 kind, .string text] 70)).drewN nq).alloc (.cells #[.map none, .pointer none, .pointer none, .slice none 0 0] 51) ∧ Inv B nT k W N' P' O' ∧ b ∈ N' ∧ w.heap.size + 1 ∈ N' ∧ (∀ x ∈ N, x ∈ N') ∧ P' (w.heap.size + 1) = P' b ++ [(0, text.data.toList)] ∧
      W.cell? ⟨b, 0, none⟩ = some (.map (some m)) ∧ W.cell? ⟨w.heap.size, 1, none⟩ = some (.string text) ∧ Below B w W ∧ w.heap.size ≤ W.heap.size := by
  have hbl := (h.lt b hb).2
  have hsz : ((w.alloc (.cells #[.int .i64 kind, .string text] 70)).drewN nq).heap.size = w.heap.size + 1 := by simp
  have hI1 := h.keep (below_drewN ((Below.refl _ _).alloc (Nat.le_refl _) (.cells #[.int .i64 kind, .string text] 70)) nq)
  have hI3 := hI1.newNode (by rw [hsz]; omega) (P b ++ [(0, text.data.toList)])
  rw [hsz] at hI3
  refine ⟨_, _, _, _, rfl, hI3, by simp [hb], by simp, fun x hx => by simp [hx], ?_, ?_, ?_, ?_, by simp; omega⟩
  · rw [setP_same, setP_other _ _ (by omega)]
  · rw [World.cell?_alloc_past _ _ _ (by simp; omega), World.cell?_drewN, World.cell?_alloc_past _ _ _ (by exact hbl)]; exact c0
  · rw [World.cell?_alloc_past _ _ _ (by simp), World.cell?_drewN, World.cell?_alloc_at _ _ _ _ rfl]; rfl
  · exact ((below_drewN ((Below.refl _ _).alloc hB _) nq).alloc (by simp; omega) _)

theorem putB_below {B : Nat} {w : World} {m : Nat} {o : Obj} (hm : B ≤ m) : Below B w (putB w m o) :=
  ⟨rfl, rfl, rfl, by simp [putB], fun k hk => by
    show (w.heap.setIfInBounds m _)[k]? = _
    rw [Array.getElem?_setIfInBounds, if_neg (by omega)]⟩

theorem put_fin {B : Nat} {nT : Int} {k : Nat} {W : World} {N : List Nat} {P : Nat → List Step} {O : Nat → Nat} {b c m : Nat} {text : ByteArray} (h : Inv B nT k W N P O) (hb : b ∈ N) (hc : c ∈ N) (hP : P c = P b ++ [(0, text.data.toList)])
    (hcell : W.cell? ⟨b, 0, none⟩ = some (.map (some m))) : ∃ es' clk', (∀ n, (Instr.mapUpdate 49 (.map (some m)) (.string text) (.pointer (some ⟨c, 0, none⟩))).run Try.prog (W.drewN n) = .ok () (putB (W.drewN n) m (.map es' clk'))) ∧
      ∀ n, Inv B nT k (putB (W.drewN n) m (.map es' clk')) N P O ∧ Below B W (putB (W.drewN n) m (.map es' clk')) := by
  obtain ⟨r, p1, p2, v, E, hn⟩ := h.node b hb
  have hr : r = some m := by
    have := hn.at.1
    rw [hcell] at this
    simpa using this.symm
  subst hr
  obtain ⟨hm1, hm2, es, clk, hm3, hm4⟩ := hn.lits m rfl
  obtain ⟨es', clk', hrun, hmem⟩ := run_put m es clk text (.pointer (some ⟨c, 0, none⟩)) (fun e he => by obtain ⟨s, _, h1, _⟩ := hm4 e he; exact ⟨s, h1⟩)
  refine ⟨es', clk', fun n => hrun _ hm3, fun n => ⟨?_, (below_drewN (Below.refl _ _) n).trans (putB_below hm1)⟩⟩
  have hk := h.keep (below_drewN (Below.refl W.heap.size W) n)
  refine hk.mapPut hb (m := m) (p1 := p1) (p2 := p2) (v := v) (E := E) ⟨hn.cells, hn.wild, hn.deep, hn.lits, hn.row, hn.owner, hn.ends⟩ (fun e he => ?_)
  rcases hmem e he with he | ⟨h1, h2⟩
  · exact hm4 e he
  · exact ⟨text, c, h1, h2, hc, hP⟩

set_option maxHeartbeats 1000000 in
theorem child_lit (B : Nat) (nT : Int) (k : Nat) (w : World) (N : List Nat) (P : Nat → List Step) (O : Nat → Nat) (b : Nat) (hb : b ∈ N) (kind : Int) (hk1 : (kind == 1) = false) (hk2 : (kind == 2) = false) (text : ByteArray) (h : Inv B nT k w N P O) (hB : B ≤ w.heap.size) :
    Calls Try.prog 30 #[.pointer (some ⟨b, 0, none⟩), .agg #[.int .i64 kind, .string text]] w (ChP B nT k N w) := by
  obtain ⟨r, p1, p2, v, E, hn⟩ := h.node b hb
  obtain ⟨c0, c1, c2, c3, cf⟩ := hn.at
  have hbl := (h.lt b hb).2
  have HI := hideP h
  have HN := hideP hn
  have hq : ∀ (w : World) (r : Option Nat), (binOp .eql 49 (.map r) (.map none)).run Try.prog w = .ok (.bool r.isNone) w := fun w r => run_eql_map_nil w 49 9 25 r Try.underlying49
  clear h hn
  cases r with
  | none =>
    have hlk := fun w => run_look_nil w text
    have hmm := @run_makeMap Try.prog
    go_enter Try.func30, Try.ntmps30
    go_wp2
    go_quiet (fail)
    go_wp2
    obtain ⟨N', P', O', g1, g2, g3, g4, g5, g6, g7, g8, g9⟩ := lit_none HI.out hb hB c0 kind text nq
    obtain ⟨es', clk', q1, q2⟩ := put_fin g1 g2 g3 g5 g6
    have HG : Hid (∀ n, ChP B nT k N w (.returned (.pointer (some ⟨w.heap.size + 1 + 1, 0, none⟩))) (putB ((litW w b kind text nq).drewN n) (w.heap.size + 1) (.map es' clk'))) := fun n =>
      ⟨_, N', P', O', rfl, (q2 n).1, g3, g4, g8.trans (q2 n).2, by have := (q2 n).2.size; omega⟩
    clear g1 g2 g3 g4 g5 g8 g9 q2 HI HN c0 c1 c2 c3 cf
    unfold litW at g6 g7 q1 HG
    generalize ((((w.alloc (.cells #[.int .i64 kind, .string text] 70)).drewN nq).setCell ⟨b, 0, none⟩ (.map (some (w.heap.size + 1)))).alloc (.map #[] 0)).alloc (.cells #[.map none, .pointer none, .pointer none, .slice none 0 0] 51) = W at g6 g7 q1 HG ⊢
    have q1' : (Instr.mapUpdate 49 (.map (some (w.heap.size + 1))) (.string text) (.pointer (some ⟨w.heap.size + 1 + 1, 0, none⟩))).run Try.prog W.drew = .ok () (putB W.drew (w.heap.size + 1) (.map es' clk')) := q1 1
    clear q1
    go_region
    go_wp2
    go_ret
    exact HG.out 1
  | some m =>
    obtain ⟨hm1, hm2, es, clk, hm3, hm4⟩ := HN.out.lits m rfl
    have hks : ∀ e ∈ es.toList, ∃ t, e.key = .string t := fun e he => by obtain ⟨s, _, h1, _⟩ := hm4 e he; exact ⟨s, h1⟩
    have hml := lt_of_heap hm3
    have hlk : ∀ (o : Obj) (n : Nat), (Instr.lookup 49 (.map (some m)) (.string text) false).run Try.prog ((w.alloc o).drewN n) = .ok (lookV es.toList text) ((w.alloc o).drewN n) := fun o n => run_look _ m es clk text (by rw [show ((w.alloc o).drewN n).heap[m]? = (w.alloc o).heap[m]? from rfl, Below.heap_alloc w o m hml]; exact hm3) hks
    rcases lookV_mem text es.toList hks with hL | ⟨e, he, hL, t, ht1, ht2⟩
    · rw [hL] at hlk
      clear HN
      go_enter Try.func30, Try.ntmps30
      go_wp2
      go_quiet (fail)
      go_wp2
      obtain ⟨N', P', O', W, hW, g1, g2, g3, g4, g5, g6, g7, g8, g9⟩ := lit_some HI.out hb hB c0 kind text nq
      obtain ⟨es', clk', q1, q2⟩ := put_fin g1 g2 g3 g5 g6
      have HG : Hid (∀ n, ChP B nT k N w (.returned (.pointer (some ⟨w.heap.size + 1, 0, none⟩))) (putB (W.drewN n) m (.map es' clk'))) := fun n =>
        ⟨_, N', P', O', rfl, (q2 n).1, g3, g4, g8.trans (q2 n).2, by have := (q2 n).2.size; omega⟩
      rw [← hW]
      have q1' : (Instr.mapUpdate 49 (.map (some m)) (.string text) (.pointer (some ⟨w.heap.size + 1, 0, none⟩))).run Try.prog W.drew = .ok () (putB W.drew m (.map es' clk')) := q1 1
      clear g1 g2 g3 g4 g5 g8 g9 q2 HI c0 c1 c2 c3 cf hW q1 hlk hm3 hm4 hks hL
      go_region
      go_wp2
      go_ret
      exact HG.out 1
    · obtain ⟨s', c, hc1, hc2, hc3, hc4⟩ := hm4 e he
      rw [hL, hc2] at hlk
      clear HN
      go_enter Try.func30, Try.ntmps30
      go_wp2
      go_quiet (fail)
      go_wp2
      go_ret
      exact ChP.there HI.out hB hc3 (below_drewN ((Below.refl _ _).alloc (Nat.le_refl _) _) _)

theorem child_any (B : Nat) (nT : Int) (k : Nat) (w : World) (N : List Nat) (P : Nat → List Step) (O : Nat → Nat) (b : Nat) (hb : b ∈ N) (kind : Int) (text : ByteArray) (h : Inv B nT k w N P O) (hB : B ≤ w.heap.size) :
    Calls Try.prog 30 #[.pointer (some ⟨b, 0, none⟩), .agg #[.int .i64 kind, .string text]] w (ChP B nT k N w) := by
  by_cases h1 : kind = 1
  · exact child_field B nT k w N P O b hb kind (.inl h1) text h hB
  · by_cases h2 : kind = 2
    · exact child_field B nT k w N P O b hb kind (.inr h2) text h hB
    · exact child_lit B nT k w N P O b hb kind (by simpa using h1) (by simpa using h2) text h hB

set_option maxHeartbeats 400000 in
theorem zzchild_any (B : Nat) (nT : Int) (k : Nat) (w : World) (N : List Nat) (P : Nat → List Step) (O : Nat → Nat) (b : Nat) (hb : b ∈ N) (kind : Int) (text : ByteArray) (h : Inv B nT k w N P O) (hB : B ≤ w.heap.size) :
    Calls Try.prog 24 #[.pointer (some ⟨b, 0, none⟩), .int .i64 kind, .string text] w (ChP B nT k N w) := by
  have HC := hideP (child_any B nT k w N P O b hb kind text h hB)
  clear h
  go_enter Try.func24, Try.ntmps24
  go_wp2_with fail
  refine HC.out.mono ?_
  rintro e w' ⟨c, N', P', O', rfl, g1, g2, g3, g4, g5⟩
  have HG : Hid (ChP B nT k N w (.returned (.pointer (some ⟨c, 0, none⟩))) w') := ⟨c, N', P', O', rfl, g1, g2, g3, g4, g5⟩
  clear g1 g2 g3 g4 g5 HC
  go_wp2
  go_ret
  exact HG.out

theorem newNode_any (w : World) : Calls Try.prog 23 #[] w fun e w' => e = .returned (.pointer (some ⟨w.heap.size, 0, none⟩)) ∧ w' = w.alloc (.cells #[.map none, .pointer none, .pointer none, .slice none 0 0] 51) := by
  go_enter Try.func23, Try.ntmps23
  go_wp2
  go_ret
  exact ⟨rfl, rfl⟩

/-- 'n.ends = append(n.ends, i)': the operation, the walk's law. -/
theorem wp_appE (w : World) {ops : Array Oper} {rest : List Oper} {o : Oper} {a : Act} {Q : Exit → Act → World → Prop} (hgd : o.guard = none) (sl x : Operand)
    (ho : o.op = .call { callee := .builtin .append, args := #[sl, x], argTypes := #[27, 27] }) (B : Nat) (v : Value) (E : List Int) (i : Int) (ad : Addr) (hs : a.eval sl = v) (hx : a.eval x = .slice (some ad) 1 1)
    (hcell : w.cell? ad = some (.int .i64 i)) (hown : w.ownsRow B 3 1 v E.length (E.map (Value.int .i64))) (hbase : B ≤ w.heap.size) (hbd : E.length ≤ 1099511627776)
    (h : ∀ g c w', w'.ownsRow B 3 1 (.slice (some ⟨g, 0, none⟩) (E.length + 1) c) (E ++ [i]).length ((E ++ [i]).map (Value.int .i64)) → w.grownBy w' v.ownBlock → (some g = v.ownBlock ∨ w.heap.size ≤ g) → wpList Try.prog ops Q rest (a.put o.dst (.slice (some ⟨g, 0, none⟩) (E.length + 1) c)) w') : wpList Try.prog ops Q (o :: rest) a w := by
  refine wpList_plain hgd fun K hK => ?_
  obtain ⟨v', w', hr, h2, h3, h4⟩ := run_app_int w B v E i ad o.type hown hcell hbd hbase
  unfold Oper.wp execOp
  simp only [ho, resolve, invoke, builtin, Sem.run_bind, Sem.run_pure, Result.andThen_ok, List.map_toArray, List.map_cons, List.map_nil, hs, hx, hr]
  have hex : ∃ g c, v' = .slice (some ⟨g, 0, none⟩) (E.length + 1) c := by
    rcases h2.2 with ⟨_, h5⟩ | ⟨g, c, cur, h5, _⟩
    · simp at h5
    · exact ⟨g, c, by rw [h5]; simp⟩
  obtain ⟨g, c, rfl⟩ := hex
  refine hK _ _ (h g c w' h2 h3 ?_)
  rcases h4 with h4 | ⟨g', h4, h5⟩
  · exact .inl h4
  · simp [Value.ownBlock] at h4
    subst h4
    exact .inr h5

theorem le_sum (w : World) : ∀ (N : List Nat) (b : Nat), b ∈ N → el w b ≤ (N.map (el w)).sum
  | [], b, h => by cases h
  | x :: l, b, h => by
    rw [List.map_cons, List.sum_cons]
    rcases List.mem_cons.1 h with rfl | h
    · omega
    · have := le_sum w l b h; omega

def AeP (B : Nat) (nT : Int) (k : Nat) (N : List Nat) (P : Nat → List Step) (w : World) (e : Ending) (w' : World) : Prop :=
  ∃ O', e = .returned (.tuple #[]) ∧ Inv B nT k w' N P O' ∧ Below B w w' ∧ w.heap.size ≤ w'.heap.size

theorem kept_node {B : Nat} {nT : Int} {w w1 : World} {N : List Nat} {P : Nat → List Step} {O : Nat → Nat} {b : Nat} {r : Option Nat} {p1 p2 : Option Addr} {v : Value} {E : List Int} {o : Obj} (h : NodeAt B nT w N P O b r p1 p2 v E) (hb : b < w.heap.size) (hg : (w.alloc o).grownBy w1 v.ownBlock) :
    w1.cell? ⟨b, 3, none⟩ = some v ∧ w1.frozen? ⟨b, 3, none⟩ = false := by
  have hne : some b ≠ v.ownBlock := fun e => by
    obtain ⟨cur, h3⟩ := row_ne h.row e.symm
    rw [h.cells] at h3
    simp at h3
  have hk : w1.heap[b]? = w.heap[b]? := (hg.block b (by simp; omega) hne).trans (Below.heap_alloc w o b hb)
  exact ⟨(World.cell?_of_block (w := w) (a := ⟨b, 3, none⟩) hk).trans h.at.2.2.2.1, (World.frozen?_of_block (w := w) (a := ⟨b, 3, none⟩) hk).trans (h.at.2.2.2.2 3)⟩

theorem AeP.mk {B : Nat} {nT : Int} {k : Nat} {w w1 : World} {N : List Nat} {P : Nat → List Step} {O : Nat → Nat} {b : Nat} (hb : b ∈ N) {r : Option Nat} {p1 p2 : Option Addr} {v : Value} {E : List Int} {i : Int} {g c : Nat} {o : Obj} (h : Inv B nT k w N P O) (hn : NodeAt B nT w N P O b r p1 p2 v E) (hB : B ≤ w.heap.size) (hi : 0 ≤ i ∧ i < nT)
    (hown : w1.ownsRow B 3 1 (.slice (some ⟨g, 0, none⟩) (E.length + 1) c) (E ++ [i]).length ((E ++ [i]).map (Value.int .i64))) (hgr : (w.alloc o).grownBy w1 v.ownBlock) (hpl : some g = v.ownBlock ∨ (w.alloc o).heap.size ≤ g) :
    AeP B nT (k + 1) N P w (.returned (.tuple #[])) (w1.setCell ⟨b, 3, none⟩ (.slice (some ⟨g, 0, none⟩) (E.length + 1) c)) := by
  have hk := h.keep ((Below.refl _ _).alloc (Nat.le_refl _) o)
  have hn1 : NodeAt B nT (w.alloc o) N P O b r p1 p2 v E := by
    obtain ⟨r', p1', p2', v', E', hn'⟩ := hk.node b hb
    have e1 := hn'.cells
    rw [Below.heap_alloc w o b (h.lt b hb).2, hn.cells] at e1
    simp at e1
    obtain ⟨rfl, rfl, rfl, rfl⟩ := e1
    refine ⟨hn'.cells, hn.wild, hn.deep, hn'.lits, ?_, hn.owner, hn.ends⟩
    exact hn.row.alloc o
  obtain ⟨O', hI⟩ := hk.pushEnd (by simp; omega) hb hn1 hi hgr hown (by
    rcases hpl with hpl | hpl
    · exact .inl hpl
    · exact .inr ⟨g, rfl, hpl⟩)
  refine ⟨O', rfl, hI, ?_, ?_⟩
  · refine Below.setCell (((Below.refl _ _).alloc hB o).grown hgr (by simp; omega) (fun k hk => (hn.row.lt k hk).1)) (by exact (h.lt b hb).1) _
  · have := hgr.size
    simp at this ⊢
    omega

set_option maxHeartbeats 400000 in
theorem appendEnd_any (B : Nat) (nT : Int) (k : Nat) (w : World) (N : List Nat) (P : Nat → List Step) (O : Nat → Nat) (b : Nat) (hb : b ∈ N) (i : Int) (hi : 0 ≤ i ∧ i < nT) (hk : k ≤ 1099511627776) (h : Inv B nT k w N P O) (hB : B ≤ w.heap.size) :
    Calls Try.prog 28 #[.pointer (some ⟨b, 0, none⟩), .int .i64 i] w (AeP B nT (k + 1) N P w) := by
  obtain ⟨r, p1, p2, v, E, hn⟩ := h.node b hb
  obtain ⟨c0, c1, c2, c3, cf⟩ := hn.at
  have hbl := h.lt b hb
  have hE : E.length ≤ 1099511627776 := by
    have h1 := hn.el_eq
    have h2 : el w b ≤ (N.map (el w)).sum := le_sum w N b hb
    have h3 := h.sum
    omega
  have HI := hideP h
  have HN := hideP hn
  clear h hn
  go_enter Try.func28, Try.ntmps28
  go_wp2_with (at_builtin; refine wp_appE _ rfl (.tmp 8) (.tmp 10) rfl B v E i ⟨_, 0, none⟩ rfl rfl (by rw [World.cell?_alloc_at _ _ _ _ rfl]; rfl) (HN.out.row.alloc _) (Nat.le_trans hB (by simp)) hE ?_; intro g c w1 hown hgrow hplace; obtain ⟨d3, df⟩ := kept_node HN.out hbl.2 hgrow; have HO := hideP hown; have HG := hideP hgrow; have HP := hideP hplace; clear hown hgrow hplace)
  refine bodyPost_end (results_none rfl _ _ _) rfl ?_
  exact AeP.mk hb HI.out HN.out hB hi HO.out HG.out HP.out

end Go.Proofs.Qxb6600448a
