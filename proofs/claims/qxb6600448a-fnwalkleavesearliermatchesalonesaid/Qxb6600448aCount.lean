/-
  SEAT b6600448a: HOW MANY ENDS A WALK MEETS AT MOST; A NODE AS A WALK SEES IT.
-/
import Derived.Test.Qxb6600448aWFour
namespace Go.Proofs.Qxb6600448a
open Go.RowKit
set_option linter.unusedVariables false

def cnt (w : World) (N : List Nat) (P : Nat → List Step) (q : List Step) : Nat := (N.map (fun x => if q.isPrefixOf (P x) = true then el w x else 0)).sum

theorem sum_le_sum {f g : Nat → Nat} : ∀ (N : List Nat), (∀ x ∈ N, f x ≤ g x) → (N.map f).sum ≤ (N.map g).sum
  | [], _ => Nat.le_refl _
  | x :: l, h => by
    rw [List.map_cons, List.map_cons, List.sum_cons, List.sum_cons]
    exact Nat.add_le_add (h x (by simp)) (sum_le_sum l (fun y hy => h y (by simp [hy])))

theorem sum_add {f g : Nat → Nat} : ∀ (N : List Nat), (N.map (fun x => f x + g x)).sum = (N.map f).sum + (N.map g).sum
  | [] => rfl
  | x :: l => by
    rw [List.map_cons, List.map_cons, List.map_cons, List.sum_cons, List.sum_cons, List.sum_cons, sum_add l]
    omega

theorem le_mem_sum {f : Nat → Nat} {b : Nat} : ∀ (N : List Nat), b ∈ N → f b ≤ (N.map f).sum
  | [], h => by cases h
  | x :: l, h => by
    rw [List.map_cons, List.sum_cons]
    rcases List.mem_cons.1 h with rfl | h
    · omega
    · have := le_mem_sum (f := f) l h
      omega

theorem pre_uniq {q p : List Step} {s t : Step} (h1 : q ++ [s] <+: p) (h2 : q ++ [t] <+: p) : s = t := by
  obtain ⟨a, ha⟩ := h1
  obtain ⟨c, hc⟩ := h2
  have h : q ++ ([s] ++ a) = q ++ ([t] ++ c) := by rw [← List.append_assoc, ← List.append_assoc, ha, hc]
  have h' := List.append_cancel_left h
  simp at h'
  exact h'.1

theorem cnt_split (w : World) (N : List Nat) (P : Nat → List Step) {b : Nat} (hb : b ∈ N) {s1 s2 s3 : Step} (h12 : s1 ≠ s2) (h13 : s1 ≠ s3) (h23 : s2 ≠ s3) :
    el w b + cnt w N P (P b ++ [s1]) + cnt w N P (P b ++ [s2]) + cnt w N P (P b ++ [s3]) ≤ cnt w N P (P b) := by
  unfold cnt
  have h0 : el w b ≤ (N.map (fun x => if x = b then el w x else 0)).sum := by
    have := le_mem_sum (f := fun x => if x = b then el w x else 0) N hb
    simpa using this
  refine Nat.le_trans (Nat.add_le_add_right (Nat.add_le_add_right (Nat.add_le_add_right h0 _) _) _) ?_
  rw [← sum_add, ← sum_add, ← sum_add]
  refine sum_le_sum N fun x hx => ?_
  have key : ∀ s, (P b ++ [s]).isPrefixOf (P x) = true → (P b).isPrefixOf (P x) = true ∧ x ≠ b := by
    intro s h
    rw [List.isPrefixOf_iff_prefix] at h ⊢
    refine ⟨(List.prefix_append _ _).trans h, fun e => ?_⟩
    subst e
    have := h.length_le
    simp at this
    omega
  have k12 : ¬ ((P b ++ [s1]).isPrefixOf (P x) = true ∧ (P b ++ [s2]).isPrefixOf (P x) = true) := fun ⟨a, c⟩ => h12 (pre_uniq (List.isPrefixOf_iff_prefix.1 a) (List.isPrefixOf_iff_prefix.1 c))
  have k13 : ¬ ((P b ++ [s1]).isPrefixOf (P x) = true ∧ (P b ++ [s3]).isPrefixOf (P x) = true) := fun ⟨a, c⟩ => h13 (pre_uniq (List.isPrefixOf_iff_prefix.1 a) (List.isPrefixOf_iff_prefix.1 c))
  have k23 : ¬ ((P b ++ [s2]).isPrefixOf (P x) = true ∧ (P b ++ [s3]).isPrefixOf (P x) = true) := fun ⟨a, c⟩ => h23 (pre_uniq (List.isPrefixOf_iff_prefix.1 a) (List.isPrefixOf_iff_prefix.1 c))
  have e1 := key s1
  have e2 := key s2
  have e3 := key s3
  have e0 : x = b → (P b).isPrefixOf (P x) = true := fun e => by subst e; rw [List.isPrefixOf_iff_prefix]; exact List.prefix_refl _
  by_cases c0 : x = b
  · have n1 : ¬ (P b ++ [s1]).isPrefixOf (P x) = true := fun h => (e1 h).2 c0
    have n2 : ¬ (P b ++ [s2]).isPrefixOf (P x) = true := fun h => (e2 h).2 c0
    have n3 : ¬ (P b ++ [s3]).isPrefixOf (P x) = true := fun h => (e3 h).2 c0
    rw [if_pos c0, if_neg n1, if_neg n2, if_neg n3, if_pos (e0 c0)]
    omega
  · rw [if_neg c0]
    by_cases c1 : (P b ++ [s1]).isPrefixOf (P x) = true
    · rw [if_pos c1, if_neg (fun h => k12 ⟨c1, h⟩), if_neg (fun h => k13 ⟨c1, h⟩), if_pos (e1 c1).1]
      omega
    · rw [if_neg c1]
      by_cases c2 : (P b ++ [s2]).isPrefixOf (P x) = true
      · rw [if_pos c2, if_neg (fun h => k23 ⟨c2, h⟩), if_pos (e2 c2).1]
        omega
      · rw [if_neg c2]
        by_cases c3 : (P b ++ [s3]).isPrefixOf (P x) = true
        · rw [if_pos c3, if_pos (e3 c3).1]
          omega
        · rw [if_neg c3]
          omega

theorem cnt_le {B : Nat} {nT : Int} {k : Nat} {w : World} {N : List Nat} {P : Nat → List Step} {O : Nat → Nat} (h : Inv B nT k w N P O) (q : List Step) : cnt w N P q ≤ k := by
  refine Nat.le_trans (sum_le_sum N fun x hx => ?_) h.sum
  split <;> omega

/-- A node as a walk sees it, now and later. -/
structure View (W0 : World) (n : Nat) (N : List Nat) (P : Nat → List Step) (b : Nat) (mv : Option Nat) (lk : ByteArray → Option Addr) (p1 p2 : Option Addr) (v : Value) (E : List Int) : Prop where
  lits : ∀ s : ByteArray, Edge N P (P b ++ [(0, s.data.toList)]) (lk s)
  wild : Edge N P (P b ++ [(1, [])]) p1
  deep : Edge N P (P b ++ [(2, [])]) p2
  el : el W0 b = E.length
  ends : ∀ y ∈ E, 0 ≤ y ∧ y < (n : Int)
  row : (v = .slice none 0 0 ∧ E = []) ∨ ∃ g c, v = .slice (some ⟨g, 0, none⟩) E.length c ∧ ∀ w', Below W0.heap.size W0 w' → ∀ j x, E[j]? = some x → w'.cell? ⟨g, j, none⟩ = some (.int .i64 x)
  c0 : ∀ w', Below W0.heap.size W0 w' → w'.cell? ⟨b, 0, none⟩ = some (.map mv)
  c1 : ∀ w', Below W0.heap.size W0 w' → w'.cell? ⟨b, 1, none⟩ = some (.pointer p1)
  c2 : ∀ w', Below W0.heap.size W0 w' → w'.cell? ⟨b, 2, none⟩ = some (.pointer p2)
  c3 : ∀ w', Below W0.heap.size W0 w' → w'.cell? ⟨b, 3, none⟩ = some v
  look : ∀ w', Below W0.heap.size W0 w' → ∀ s, (Instr.lookup 49 (.map mv) (.string s) false).run Try.prog w' = .ok (.pointer (lk s)) w'

def ptrOf : Value → Option Addr
  | .pointer p => p
  | _ => none

theorem view_of {B n k : Nat} {W0 : World} {N : List Nat} {P : Nat → List Step} {O : Nat → Nat} (h : Inv B n k W0 N P O) {b : Nat} (hb : b ∈ N) : ∃ mv lk p1 p2 v E, View W0 n N P b mv lk p1 p2 v E := by
  obtain ⟨r, p1, p2, v, E, hn⟩ := h.node b hb
  have hbl := (h.lt b hb).2
  obtain ⟨c0, c1, c2, c3, cf⟩ := hn.at
  have hrow : (v = .slice none 0 0 ∧ E = []) ∨ ∃ g c, v = .slice (some ⟨g, 0, none⟩) E.length c ∧ ∀ w', Below W0.heap.size W0 w' → ∀ j x, E[j]? = some x → w'.cell? ⟨g, j, none⟩ = some (.int .i64 x) := by
    rcases hn.slice with h1 | ⟨g, c, h1, h2, h3, h4, _⟩
    · exact .inl h1
    · refine .inr ⟨g, c, h1, fun w' hw j x hj => ?_⟩
      have hr := hn.row
      rw [h1] at hr
      have hjl : j < E.length := (List.getElem?_eq_some_iff.1 hj).1
      rw [hw.cell (by exact h3), hr.cellAt j (by omega), List.getElem?_map, hj]
      rfl
  cases r with
  | none =>
    exact ⟨none, fun _ => none, p1, p2, v, E, fun s a ha => (by cases ha), hn.wild, hn.deep, hn.el_eq, hn.ends, hrow, fun w' hw => (hw.cell (by exact hbl)).trans c0, fun w' hw => (hw.cell (by exact hbl)).trans c1, fun w' hw => (hw.cell (by exact hbl)).trans c2, fun w' hw => (hw.cell (by exact hbl)).trans c3, fun w' _ s => run_look_nil w' s⟩
  | some m =>
    obtain ⟨hm1, hm2, es, clk, hm3, hm4⟩ := hn.lits m rfl
    have hkeys : ∀ e ∈ es.toList, ∃ t, e.key = .string t := fun e he => by
      obtain ⟨s, c, h1, _⟩ := hm4 e he
      exact ⟨s, h1⟩
    have hlv : ∀ s, lookV es.toList s = .pointer (ptrOf (lookV es.toList s)) ∧ Edge N P (P b ++ [(0, s.data.toList)]) (ptrOf (lookV es.toList s)) := fun s => by
      rcases lookV_mem s es.toList hkeys with h1 | ⟨e, he, h1, t, h2, h3⟩
      · rw [h1]; exact ⟨rfl, fun a ha => by cases ha⟩
      · obtain ⟨s', c, k1, k2, k3, k4⟩ := hm4 e he
        rw [h1, k2]
        refine ⟨rfl, fun a ha => ⟨c, k3, ?_, ?_⟩⟩
        · simp [ptrOf] at ha; exact ha.symm
        · have e1 : s = t := (MapKept.bytes_beq s t).1 h3
          rw [k1] at h2
          simp at h2
          rw [k4, e1, h2]
    exact ⟨some m, fun s => ptrOf (lookV es.toList s), p1, p2, v, E, fun s => (hlv s).2, hn.wild, hn.deep, hn.el_eq, hn.ends, hrow, fun w' hw => (hw.cell (by exact hbl)).trans c0, fun w' hw => (hw.cell (by exact hbl)).trans c1, fun w' hw => (hw.cell (by exact hbl)).trans c2, fun w' hw => (hw.cell (by exact hbl)).trans c3,
      fun w' hw s => by
        have := run_look w' m es clk s ((hw.block m (lt_of_heap hm3)).trans hm3) hkeys
        rw [this, ← (hlv s).1]⟩

end Go.Proofs.Qxb6600448a
