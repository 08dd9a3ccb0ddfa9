/-
  SEAT b6600448a: THE TREE IN MEMORY: what is kept true of the nodes, their maps and their rows of ends, as 'child' and 'ZZAppendEnd' write them. No Go function is walked here.
-/
import Derived.WalkKit
import Derived.WalkSmall
import Derived.MapKept
namespace Go.Proofs.Qxb6600448a
open Go.RowKit
set_option linter.unusedVariables false

theorem hideP {p : Prop} (h : p) : Hid p := h

/-- A step on the way from the root: (0, text) a literal, (1, []) the wildcard, (2, []) the deep wildcard. -/
abbrev Step := Nat × List UInt8

def Edge (N : List Nat) (P : Nat → List Step) (q : List Step) (ptr : Option Addr) : Prop := ∀ a, ptr = some a → ∃ c, c ∈ N ∧ a = ⟨c, 0, none⟩ ∧ P c = q

def Ents (N : List Nat) (P : Nat → List Step) (q : List Step) (es : List MapEntry) : Prop :=
  ∀ e ∈ es, ∃ s c, e.key = .string s ∧ e.val = .pointer (some ⟨c, 0, none⟩) ∧ c ∈ N ∧ P c = q ++ [(0, s.data.toList)]

/-- The node at block b. -/
structure NodeAt (B : Nat) (nT : Int) (w : World) (N : List Nat) (P : Nat → List Step) (O : Nat → Nat) (b : Nat) (r : Option Nat) (p1 p2 : Option Addr) (v : Value) (E : List Int) : Prop where
  cells : w.heap[b]? = some (.cells #[.map r, .pointer p1, .pointer p2, v] 51 (0, 0))
  wild : Edge N P (P b ++ [(1, [])]) p1
  deep : Edge N P (P b ++ [(2, [])]) p2
  lits : ∀ m, r = some m → B ≤ m ∧ O m = b ∧ ∃ es clk, w.heap[m]? = some (.map es clk) ∧ Ents N P (P b) es.toList
  row : w.ownsRow B 3 1 v E.length (E.map (Value.int .i64))
  owner : ∀ k, v.ownBlock = some k → O k = b
  ends : ∀ i ∈ E, 0 ≤ i ∧ i < nT

/-- How many ends the node at b holds. -/
def lenV : Option Value → Nat
  | some (.slice _ n _) => n
  | _ => 0
def el (w : World) (b : Nat) : Nat := match w.heap[b]? with
  | some (.cells cs _ _) => lenV cs[3]?
  | _ => 0

structure Inv (B : Nat) (nT : Int) (k : Nat) (w : World) (N : List Nat) (P : Nat → List Step) (O : Nat → Nat) : Prop where
  nodup : N.Nodup
  lt : ∀ b ∈ N, B ≤ b ∧ b < w.heap.size
  node : ∀ b ∈ N, ∃ r p1 p2 v E, NodeAt B nT w N P O b r p1 p2 v E
  sum : (N.map (el w)).sum ≤ k

theorem NodeAt.slice {B : Nat} {nT : Int} {w : World} {N : List Nat} {P : Nat → List Step} {O : Nat → Nat} {b : Nat} {r : Option Nat} {p1 p2 : Option Addr} {v : Value} {E : List Int} (h : NodeAt B nT w N P O b r p1 p2 v E) :
    (v = .slice none 0 0 ∧ E = []) ∨ ∃ g c, v = .slice (some ⟨g, 0, none⟩) E.length c ∧ B ≤ g ∧ g < w.heap.size ∧ E.length ≤ c ∧ ∃ cur, w.heap[g]? = some (.cells cur 3 (0, 0)) := by
  rcases h.row.2 with ⟨h1, h2⟩ | ⟨g, c, cur, h1, h2, h3, h4, _⟩
  · exact .inl ⟨h1, List.eq_nil_of_length_eq_zero h2⟩
  · refine .inr ⟨g, c, h1, h2, ?_, h4, cur, h3⟩
    exact (h.row.lt g (by rw [h1]; rfl)).2

theorem NodeAt.el_eq {B : Nat} {nT : Int} {w : World} {N : List Nat} {P : Nat → List Step} {O : Nat → Nat} {b : Nat} {r : Option Nat} {p1 p2 : Option Addr} {v : Value} {E : List Int} (h : NodeAt B nT w N P O b r p1 p2 v E) : el w b = E.length := by
  unfold el
  rw [h.cells]
  rcases h.slice with ⟨h1, h2⟩ | ⟨g, c, h1, _⟩
  · rw [h1, h2]; rfl
  · rw [h1]; rfl

theorem el_congr {w w' : World} {b : Nat} (h : w'.heap[b]? = w.heap[b]?) : el w' b = el w b := by unfold el; rw [h]

theorem sum_congr {w w' : World} : ∀ (N : List Nat), (∀ b ∈ N, w'.heap[b]? = w.heap[b]?) → (N.map (el w')).sum = (N.map (el w)).sum
  | [], _ => rfl
  | b :: l, h => by
    rw [List.map_cons, List.map_cons, List.sum_cons, List.sum_cons, el_congr (h b (by simp)), sum_congr l (fun c hc => h c (by simp [hc]))]

theorem grownBy_of_below {w w' : World} (h : Below w.heap.size w w') (row : Option Nat) : w.grownBy w' row := ⟨h.os, h.tape, h.output, h.size, fun k hk _ => h.block k hk⟩

/-- Nothing that was there has turned. -/
theorem Inv.keep {B : Nat} {nT : Int} {k : Nat} {w w' : World} {N : List Nat} {P : Nat → List Step} {O : Nat → Nat} (h : Inv B nT k w N P O) (hb : Below w.heap.size w w') : Inv B nT k w' N P O := by
  refine ⟨h.nodup, fun b hbN => ⟨(h.lt b hbN).1, Nat.lt_of_lt_of_le (h.lt b hbN).2 hb.size⟩, fun b hbN => ?_, ?_⟩
  · obtain ⟨r, p1, p2, v, E, hn⟩ := h.node b hbN
    refine ⟨r, p1, p2, v, E, (hb.block b (h.lt b hbN).2).trans hn.cells, hn.wild, hn.deep, fun m hm => ?_, hn.row.kept (grownBy_of_below hb (some w.heap.size)) ?_, hn.owner, hn.ends⟩
    · obtain ⟨h1, h2, es, clk, h3, h4⟩ := hn.lits m hm
      refine ⟨h1, h2, es, clk, (hb.block m ?_).trans h3, h4⟩
      rw [← Array.getElem?_eq_some_iff.1 h3 |>.2] at h3
      exact (Array.getElem?_eq_some_iff.1 h3).1
    · right
      intro hk
      have := (hn.row.lt w.heap.size hk).2
      omega
  · rw [sum_congr N (fun b hbN => hb.block b (h.lt b hbN).2)]
    exact h.sum

/-- The paths with one more. -/
def setP {α : Type} (P : Nat → α) (c : Nat) (q : α) : Nat → α := fun k => if k = c then q else P k
theorem setP_same {α : Type} (P : Nat → α) (c : Nat) (q : α) : setP P c q c = q := by simp [setP]
theorem setP_other {α : Type} (P : Nat → α) {c k : Nat} (q : α) (h : k ≠ c) : setP P c q k = P k := by simp [setP, h]

def emptyNode : Obj := .cells #[.map none, .pointer none, .pointer none, .slice none 0 0] 51

/-- A new node. -/
theorem Inv.newNode {B : Nat} {nT : Int} {k : Nat} {w : World} {N : List Nat} {P : Nat → List Step} {O : Nat → Nat} (h : Inv B nT k w N P O) (hB : B ≤ w.heap.size) (q : List Step) :
    Inv B nT k (w.alloc emptyNode) (N ++ [w.heap.size]) (setP P w.heap.size q) O := by
  have hk := h.keep ((Below.refl _ _).alloc (Nat.le_refl _) emptyNode)
  have hne : ∀ b ∈ N, b ≠ w.heap.size := fun b hb => by have := (h.lt b hb).2; omega
  have hP : ∀ b ∈ N, setP P w.heap.size q b = P b := fun b hb => setP_other P q (hne b hb)
  have hedge : ∀ {b : Nat} {s : Step} {p : Option Addr}, b ∈ N → Edge N P (P b ++ [s]) p → Edge (N ++ [w.heap.size]) (setP P w.heap.size q) (setP P w.heap.size q b ++ [s]) p := by
    intro b s p hb he a ha
    obtain ⟨c, h1, h2, h3⟩ := he a ha
    exact ⟨c, by simp [h1], h2, by rw [hP c h1, hP b hb, h3]⟩
  refine ⟨?_, ?_, ?_, ?_⟩
  · rw [List.nodup_append]
    exact ⟨h.nodup, by simp, fun a ha b hb => by simp at hb; subst hb; exact hne a ha⟩
  · intro b hb
    rcases List.mem_append.1 hb with hb | hb
    · exact hk.lt b hb
    · simp at hb; subst hb; exact ⟨hB, by simp⟩
  · intro b hb
    rcases List.mem_append.1 hb with hb | hb
    · obtain ⟨r, p1, p2, v, E, hn⟩ := hk.node b hb
      refine ⟨r, p1, p2, v, E, hn.cells, hedge hb hn.wild, hedge hb hn.deep, fun m hm => ?_, hn.row, hn.owner, hn.ends⟩
      obtain ⟨h1, h2, es, clk, h3, h4⟩ := hn.lits m hm
      refine ⟨h1, h2, es, clk, h3, fun e he => ?_⟩
      obtain ⟨s, c, h5, h6, h7, h8⟩ := h4 e he
      exact ⟨s, c, h5, h6, by simp [h7], by rw [hP c h7, hP b hb, h8]⟩
    · simp at hb; subst hb
      exact ⟨none, none, none, .slice none 0 0, [], heap_alloc_new w _, (fun a ha => by cases ha), (fun a ha => by cases ha), (fun m hm => by cases hm), World.ownsRow_nil _ _ _ _, (fun k hk => by cases hk), (fun i hi => by cases hi)⟩
  · rw [List.map_append, List.sum_append]
    have : el (w.alloc emptyNode) w.heap.size = 0 := by unfold el; rw [heap_alloc_new]; rfl
    simp [this]
    exact hk.sum

/-- A pointer field set. j = 1: the wildcard; j = 2: the deep one. -/
theorem Inv.setField {B : Nat} {nT : Int} {k : Nat} {w : World} {N : List Nat} {P : Nat → List Step} {O : Nat → Nat} (h : Inv B nT k w N P O) {b c j : Nat} (hj : j = 1 ∨ j = 2) (hb : b ∈ N) (hc : c ∈ N) (hP : P c = P b ++ [(j, [])]) :
    Inv B nT k (w.setCell ⟨b, j, none⟩ (.pointer (some ⟨c, 0, none⟩))) N P O := by
  obtain ⟨r0, p10, p20, v0, E0, hn0⟩ := h.node b hb
  have hother : ∀ k, k ≠ b → (w.setCell ⟨b, j, none⟩ (.pointer (some ⟨c, 0, none⟩))).heap[k]? = w.heap[k]? := fun k hk => heap_setCell_other w _ k _ hk
  have hsame := heap_setCell_same w b j _ 51 (.pointer (some ⟨c, 0, none⟩)) hn0.cells
  have hgr : w.grownBy (w.setCell ⟨b, j, none⟩ (.pointer (some ⟨c, 0, none⟩))) (some b) := ⟨rfl, rfl, rfl, by simp, fun k _ hk => hother k (fun e => hk (by rw [e]))⟩
  have hrow : ∀ {v : Value} {E : List Int}, w.ownsRow B 3 1 v E.length (E.map (Value.int .i64)) → (w.setCell ⟨b, j, none⟩ (.pointer (some ⟨c, 0, none⟩))).ownsRow B 3 1 v E.length (E.map (Value.int .i64)) := by
    intro v E hr
    refine hr.kept hgr ?_
    right
    intro hk
    rcases hr.2 with ⟨h1, _⟩ | ⟨g, c', cur, h1, _, h3, _⟩
    · rw [h1] at hk; cases hk
    · rw [h1] at hk
      simp [Value.ownBlock] at hk
      subst hk
      rw [hn0.cells] at h3
      simp at h3
  have hmap : ∀ (m : Nat) es clk, w.heap[m]? = some (.map es clk) → (w.setCell ⟨b, j, none⟩ (.pointer (some ⟨c, 0, none⟩))).heap[m]? = some (.map es clk) := fun m es clk hm => by
    rw [hother m (fun e => by subst e; rw [hn0.cells] at hm; cases hm), hm]
  refine ⟨h.nodup, fun b' hb' => by simpa using h.lt b' hb', fun b' hb' => ?_, ?_⟩
  · by_cases hbb : b' = b
    · subst hbb
      have hlits : ∀ m, r0 = some m → B ≤ m ∧ O m = b' ∧ ∃ es clk, (w.setCell ⟨b', j, none⟩ (.pointer (some ⟨c, 0, none⟩))).heap[m]? = some (.map es clk) ∧ Ents N P (P b') es.toList := fun m hm => by
        obtain ⟨h1, h2, es, clk, h3, h4⟩ := hn0.lits m hm
        exact ⟨h1, h2, es, clk, hmap m es clk h3, h4⟩
      have hedge : Edge N P (P b' ++ [(j, [])]) (some ⟨c, 0, none⟩) := fun a ha => by cases ha; exact ⟨c, hc, rfl, hP⟩
      rcases hj with rfl | rfl
      · exact ⟨r0, some ⟨c, 0, none⟩, p20, v0, E0, by rw [hsame]; rfl, hedge, hn0.deep, hlits, hrow hn0.row, hn0.owner, hn0.ends⟩
      · exact ⟨r0, p10, some ⟨c, 0, none⟩, v0, E0, by rw [hsame]; rfl, hn0.wild, hedge, hlits, hrow hn0.row, hn0.owner, hn0.ends⟩
    · obtain ⟨r, p1, p2, v, E, hn⟩ := h.node b' hb'
      refine ⟨r, p1, p2, v, E, (hother b' hbb).trans hn.cells, hn.wild, hn.deep, fun m hm => ?_, hrow hn.row, hn.owner, hn.ends⟩
      obtain ⟨h1, h2, es, clk, h3, h4⟩ := hn.lits m hm
      exact ⟨h1, h2, es, clk, hmap m es clk h3, h4⟩
  · have : (N.map (el (w.setCell ⟨b, j, none⟩ (.pointer (some ⟨c, 0, none⟩))))).sum = (N.map (el w)).sum := by
      congr 1
      refine List.map_congr_left fun b' hb' => ?_
      by_cases hbb : b' = b
      · subst hbb
        unfold el
        rw [hsame, hn0.cells]
        rcases hj with rfl | rfl <;> rfl
      · exact el_congr (hother b' hbb)
    rw [this]
    exact h.sum

/-- The block of an owned row is no node's and no map's. -/
theorem row_ne {w : World} {B : Nat} {v : Value} {n : Nat} {xs : List Value} (hr : w.ownsRow B 3 1 v n xs) {k : Nat} (hk : v.ownBlock = some k) : ∃ cur, w.heap[k]? = some (.cells cur 3 (0, 0)) := by
  rcases hr.2 with ⟨h1, _⟩ | ⟨g, c', cur, h1, _, h3, _⟩
  · rw [h1] at hk; cases hk
  · rw [h1] at hk
    simp [Value.ownBlock] at hk
    subst hk
    exact ⟨cur, h3⟩

theorem lt_of_heap {w : World} {k : Nat} {o : Obj} (h : w.heap[k]? = some o) : k < w.heap.size := (Array.getElem?_eq_some_iff.1 h).1

/-- A new map for a node. -/
theorem Inv.setMap {B : Nat} {nT : Int} {k : Nat} {w : World} {N : List Nat} {P : Nat → List Step} {O : Nat → Nat} (h : Inv B nT k w N P O) (hB : B ≤ w.heap.size) {b : Nat} (hb : b ∈ N) :
    Inv B nT k ((w.alloc (.map #[] 0)).setCell ⟨b, 0, none⟩ (.map (some w.heap.size))) N P (setP O w.heap.size b) := by
  have hk := h.keep ((Below.refl _ _).alloc (Nat.le_refl _) (.map #[] 0))
  obtain ⟨r0, p10, p20, v0, E0, hn0⟩ := hk.node b hb
  have hother : ∀ k, k ≠ b → ((w.alloc (.map #[] 0)).setCell ⟨b, 0, none⟩ (.map (some w.heap.size))).heap[k]? = (w.alloc (.map #[] 0)).heap[k]? := fun k hk => heap_setCell_other _ _ k _ hk
  have hsame := heap_setCell_same (w.alloc (.map #[] 0)) b 0 _ 51 (.map (some w.heap.size)) hn0.cells
  have hgr : (w.alloc (.map #[] 0)).grownBy ((w.alloc (.map #[] 0)).setCell ⟨b, 0, none⟩ (.map (some w.heap.size))) (some b) := ⟨rfl, rfl, rfl, by simp, fun k _ hk => hother k (fun e => hk (by rw [e]))⟩
  have hnew : (w.alloc (.map #[] 0)).heap[w.heap.size]? = some (.map #[] 0) := heap_alloc_new w _
  have hbl : b ≠ w.heap.size := by have := (h.lt b hb).2; omega
  have hrow : ∀ {v : Value} {E : List Int}, (w.alloc (.map #[] 0)).ownsRow B 3 1 v E.length (E.map (Value.int .i64)) → ((w.alloc (.map #[] 0)).setCell ⟨b, 0, none⟩ (.map (some w.heap.size))).ownsRow B 3 1 v E.length (E.map (Value.int .i64)) := by
    intro v E hr
    refine hr.kept hgr ?_
    right
    intro hk
    obtain ⟨cur, h3⟩ := row_ne hr hk
    rw [hn0.cells] at h3
    simp at h3
  have hown : ∀ {v : Value} {E : List Int} {b' : Nat}, (w.alloc (.map #[] 0)).ownsRow B 3 1 v E.length (E.map (Value.int .i64)) → (∀ k, v.ownBlock = some k → O k = b') → ∀ k, v.ownBlock = some k → setP O w.heap.size b k = b' := by
    intro v E b' hr ho k hk
    rw [setP_other O b (fun e => by
      subst e
      obtain ⟨cur, h3⟩ := row_ne hr hk
      rw [hnew] at h3; cases h3)]
    exact ho k hk
  refine ⟨h.nodup, fun b' hb' => by simpa using hk.lt b' hb', fun b' hb' => ?_, ?_⟩
  · by_cases hbb : b' = b
    · subst hbb
      refine ⟨some w.heap.size, p10, p20, v0, E0, by rw [hsame]; rfl, hn0.wild, hn0.deep, fun m hm => ?_, hrow hn0.row, hown hn0.row hn0.owner, hn0.ends⟩
      cases hm
      refine ⟨hB, setP_same _ _ _, #[], 0, ?_, fun e he => by simp at he⟩
      rw [hother _ (Ne.symm hbl), hnew]
    · obtain ⟨r, p1, p2, v, E, hn⟩ := hk.node b' hb'
      refine ⟨r, p1, p2, v, E, (hother b' hbb).trans hn.cells, hn.wild, hn.deep, fun m hm => ?_, hrow hn.row, hown hn.row hn.owner, hn.ends⟩
      obtain ⟨h1, h2, es, clk, h3, h4⟩ := hn.lits m hm
      by_cases hm2 : m = w.heap.size
      · exfalso
        obtain ⟨r', p1', p2', v', E', hn'⟩ := h.node b' hb'
        have hc := hn'.cells
        have hc2 := hn.cells
        rw [Below.heap_alloc w _ b' (h.lt b' hb').2, hc] at hc2
        simp at hc2
        rw [← hc2.1] at hm
        obtain ⟨_, _, es', clk', h5, _⟩ := hn'.lits m hm
        have := lt_of_heap h5
        omega
      · refine ⟨h1, by rw [setP_other O b hm2]; exact h2, es, clk, ?_, h4⟩
        rw [hother m (fun e => by subst e; rw [hn0.cells] at h3; cases h3), h3]
  · have : (N.map (el ((w.alloc (.map #[] 0)).setCell ⟨b, 0, none⟩ (.map (some w.heap.size))))).sum = (N.map (el (w.alloc (.map #[] 0)))).sum := by
      congr 1
      refine List.map_congr_left fun b' hb' => ?_
      by_cases hbb : b' = b
      · subst hbb
        unfold el
        rw [hsame, hn0.cells]
        rfl
      · exact el_congr (hother b' hbb)
    rw [this]
    exact hk.sum

/-- A map written. -/
theorem Inv.mapPut {B : Nat} {nT : Int} {k : Nat} {w : World} {N : List Nat} {P : Nat → List Step} {O : Nat → Nat} (h : Inv B nT k w N P O) {b m : Nat} (hb : b ∈ N) {p1 p2 : Option Addr} {v : Value} {E : List Int} (hn0 : NodeAt B nT w N P O b (some m) p1 p2 v E)
    {es' : Array MapEntry} {clk' : Nat} (he : Ents N P (P b) es'.toList) :
    Inv B nT k { w with heap := w.heap.setIfInBounds m (.map es' clk') } N P O := by
  obtain ⟨hm1, hm2, es0, clk0, hm3, hm4⟩ := hn0.lits m rfl
  have hml := lt_of_heap hm3
  have hother : ∀ k, k ≠ m → ({ w with heap := w.heap.setIfInBounds m (.map es' clk') } : World).heap[k]? = w.heap[k]? := fun k hk => by
    show (w.heap.setIfInBounds m _)[k]? = _
    rw [Array.getElem?_setIfInBounds, if_neg (Ne.symm hk)]
  have hsame : ({ w with heap := w.heap.setIfInBounds m (.map es' clk') } : World).heap[m]? = some (.map es' clk') := by
    show (w.heap.setIfInBounds m _)[m]? = _
    rw [Array.getElem?_setIfInBounds, if_pos rfl, if_pos hml]
  have hgr : w.grownBy ({ w with heap := w.heap.setIfInBounds m (.map es' clk') } : World) (some m) := ⟨rfl, rfl, rfl, by simp, fun k _ hk => hother k (fun e => hk (by rw [e]))⟩
  have hrow : ∀ {v : Value} {E : List Int}, w.ownsRow B 3 1 v E.length (E.map (Value.int .i64)) → ({ w with heap := w.heap.setIfInBounds m (.map es' clk') } : World).ownsRow B 3 1 v E.length (E.map (Value.int .i64)) := by
    intro v E hr
    refine hr.kept hgr ?_
    right
    intro hk
    obtain ⟨cur, h3⟩ := row_ne hr hk
    rw [hm3] at h3
    cases h3
  have hnm : ∀ b' ∈ N, b' ≠ m := fun b' hb' e => by
    subst e
    obtain ⟨r, p1, p2, v, E, hn⟩ := h.node b' hb'
    have := hn.cells
    rw [hm3] at this
    cases this
  refine ⟨h.nodup, fun b' hb' => by simpa using h.lt b' hb', fun b' hb' => ?_, ?_⟩
  · obtain ⟨r, p1, p2, v, E, hn⟩ := h.node b' hb'
    refine ⟨r, p1, p2, v, E, (hother b' (hnm b' hb')).trans hn.cells, hn.wild, hn.deep, fun m' hm' => ?_, hrow hn.row, hn.owner, hn.ends⟩
    obtain ⟨h1, h2, es, clk, h3, h4⟩ := hn.lits m' hm'
    by_cases hmm : m' = m
    · subst hmm
      refine ⟨h1, h2, es', clk', hsame, ?_⟩
      have : b' = b := by rw [← h2, hm2]
      rw [this]
      exact he
    · exact ⟨h1, h2, es, clk, (hother m' hmm).trans h3, h4⟩
  · rw [sum_congr N (fun b' hb' => hother b' (hnm b' hb'))]
    exact h.sum

/-- A row of ends grown, and the field set: what 'n.ends = append(n.ends, i)' does. -/
theorem Inv.pushEnd {B : Nat} {nT : Int} {k : Nat} {w w1 : World} {N : List Nat} {P : Nat → List Step} {O : Nat → Nat} (h : Inv B nT k w N P O) (hB : B ≤ w.heap.size) {b : Nat} (hb : b ∈ N) {r : Option Nat} {p1 p2 : Option Addr} {v v' : Value} {E : List Int} (hn0 : NodeAt B nT w N P O b r p1 p2 v E)
    {i : Int} (hi : 0 ≤ i ∧ i < nT) (hgr : w.grownBy w1 v.ownBlock) (hown : w1.ownsRow B 3 1 v' (E ++ [i]).length ((E ++ [i]).map (Value.int .i64))) (hplace : v'.ownBlock = v.ownBlock ∨ ∃ g, v'.ownBlock = some g ∧ w.heap.size ≤ g) :
    ∃ O', Inv B nT (k + 1) (w1.setCell ⟨b, 3, none⟩ v') N P O' := by
  obtain ⟨g, hg⟩ : ∃ g, v'.ownBlock = some g := by
    rcases hown.2 with ⟨_, h2⟩ | ⟨g, c, cur, h1, _⟩
    · simp at h2
    · exact ⟨g, by rw [h1]; rfl⟩
  have hkept : ∀ x, x < w.heap.size → v.ownBlock ≠ some x → w1.heap[x]? = w.heap[x]? := fun x hx hne => hgr.block x hx (fun e => hne e.symm)
  have hvne : ∀ b' ∈ N, v.ownBlock ≠ some b' := fun b' hb' e => by
    obtain ⟨cur, h3⟩ := row_ne hn0.row e
    obtain ⟨r', p1', p2', v', E', hn⟩ := h.node b' hb'
    rw [hn.cells] at h3
    simp at h3
  have hmne : ∀ (m : Nat) es clk, w.heap[m]? = some (.map es clk) → v.ownBlock ≠ some m := fun m es clk hm e => by
    obtain ⟨cur, h3⟩ := row_ne hn0.row e
    rw [hm] at h3
    cases h3
  have hnode1 : ∀ b' ∈ N, w1.heap[b']? = w.heap[b']? := fun b' hb' => hkept b' (h.lt b' hb').2 (hvne b' hb')
  have hcells1 : w1.heap[b]? = some (.cells #[.map r, .pointer p1, .pointer p2, v] 51 (0, 0)) := (hnode1 b hb).trans hn0.cells
  have hother : ∀ x, x ≠ b → (w1.setCell ⟨b, 3, none⟩ v').heap[x]? = w1.heap[x]? := fun x hx => heap_setCell_other _ _ x _ hx
  have hsame := heap_setCell_same w1 b 3 _ 51 v' hcells1
  have hgr2 : w1.grownBy (w1.setCell ⟨b, 3, none⟩ v') (some b) := ⟨rfl, rfl, rfl, by simp, fun x _ hx => hother x (fun e => hx (by rw [e]))⟩
  have hrow2 : ∀ {u : Value} {F : List Int}, w1.ownsRow B 3 1 u F.length (F.map (Value.int .i64)) → (w1.setCell ⟨b, 3, none⟩ v').ownsRow B 3 1 u F.length (F.map (Value.int .i64)) := by
    intro u F hr
    refine hr.kept hgr2 ?_
    right
    intro hk
    obtain ⟨cur, h3⟩ := row_ne hr hk
    rw [hcells1] at h3
    simp at h3
  have hmap : ∀ (m : Nat) es clk, w.heap[m]? = some (.map es clk) → (w1.setCell ⟨b, 3, none⟩ v').heap[m]? = some (.map es clk) := fun m es clk hm => by
    have h1 := hkept m (lt_of_heap hm) (hmne m es clk hm)
    rw [hother m (fun e => by subst e; rw [hn0.cells] at hm; cases hm), h1, hm]
  refine ⟨setP O g b, h.nodup, fun b' hb' => ⟨(h.lt b' hb').1, by simpa using Nat.lt_of_lt_of_le (h.lt b' hb').2 hgr.size⟩, fun b' hb' => ?_, ?_⟩
  · by_cases hbb : b' = b
    · subst hbb
      refine ⟨r, p1, p2, v', E ++ [i], by rw [hsame]; rfl, hn0.wild, hn0.deep, fun m hm => ?_, hrow2 hown, fun x hx => ?_, fun y hy => ?_⟩
      · obtain ⟨h1, h2, es, clk, h3, h4⟩ := hn0.lits m hm
        refine ⟨h1, ?_, es, clk, hmap m es clk h3, h4⟩
        by_cases hmg : m = g
        · rw [hmg, setP_same]
        · rw [setP_other O b' hmg]; exact h2
      · rw [hg] at hx
        cases hx
        exact setP_same _ _ _
      · rcases List.mem_append.1 hy with hy | hy
        · exact hn0.ends y hy
        · simp at hy; subst hy; exact hi
    · obtain ⟨r', p1', p2', u, F, hn⟩ := h.node b' hb'
      have hune : ∀ x, u.ownBlock = some x → x ≠ g := fun x hx e => by
        subst e
        rcases hplace with hp | ⟨g', hp, hge⟩
        · have h1 := hn.owner x hx
          have h2 := hn0.owner x (by rw [← hp]; exact hg)
          exact hbb (by rw [← h1, h2])
        · rw [hg] at hp
          cases hp
          have := (hn.row.lt x hx).2
          omega
      have hrow1 : w1.ownsRow B 3 1 u F.length (F.map (Value.int .i64)) := by
        refine hn.row.kept hgr ?_
        cases hu : u.ownBlock with
        | none => exact .inl rfl
        | some x =>
          right
          intro e
          have h1 := hn.owner x hu
          have h2 := hn0.owner x e.symm
          exact hbb (by rw [← h1, h2])
      refine ⟨r', p1', p2', u, F, (hother b' hbb).trans ((hnode1 b' hb').trans hn.cells), hn.wild, hn.deep, fun m hm => ?_, hrow2 hrow1, fun x hx => by rw [setP_other O b (hune x hx)]; exact hn.owner x hx, hn.ends⟩
      obtain ⟨h1, h2, es, clk, h3, h4⟩ := hn.lits m hm
      refine ⟨h1, ?_, es, clk, hmap m es clk h3, h4⟩
      rw [setP_other O b (fun e => by
        subst e
        rcases hplace with hp | ⟨g', hp, hge⟩
        · exact hmne m es clk h3 (by rw [← hp]; exact hg)
        · rw [hg] at hp
          cases hp
          have := lt_of_heap h3
          omega)]
      exact h2
  · have hsum : ∀ l : List Nat, l.Nodup → (∀ x ∈ l, x ∈ N) → (l.map (el (w1.setCell ⟨b, 3, none⟩ v'))).sum ≤ (l.map (el w)).sum + (if b ∈ l then 1 else 0) := by
      intro l
      induction l with
      | nil => intro _ _; simp
      | cons x l ih =>
        intro hnd hin
        rw [List.nodup_cons] at hnd
        have ih' := ih hnd.2 (fun y hy => hin y (by simp [hy]))
        rw [List.map_cons, List.map_cons, List.sum_cons, List.sum_cons]
        by_cases hxb : x = b
        · subst hxb
          have e1 : el (w1.setCell ⟨x, 3, none⟩ v') x = E.length + 1 := by
            unfold el
            rw [hsame]
            rcases hown.2 with ⟨_, h2⟩ | ⟨g', c, cur, h1, _⟩
            · simp at h2
            · rw [h1]; simp [lenV]
          rw [e1, hn0.el_eq]
          rw [if_neg hnd.1] at ih'
          simp
          omega
        · rw [el_congr ((hother x hxb).trans (hnode1 x (hin x (by simp))))]
          have : (b ∈ x :: l) = (b ∈ l) := by simp [Ne.symm hxb]
          simp only [this]
          omega
    have := hsum N h.nodup (fun x hx => hx)
    rw [if_pos hb] at this
    have := h.sum
    omega

end Go.Proofs.Qxb6600448a
