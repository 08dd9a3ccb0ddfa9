/-
  SEAT b6600448a: THE RUNS OF THE MAP's TWO OPERATIONS AT STRING KEYS, AND WHERE AN append's RESULT LIES.
-/
import Derived.Test.Qxb6600448aProg
import Derived.Test.Qxb6600448aTree
namespace Go.Proofs.Qxb6600448a
open Go.RowKit
set_option linter.unusedVariables false

/-- What a look-up of s gives. -/
def lookV : List MapEntry → ByteArray → Value
  | [], _ => .pointer none
  | e :: es, s => match e.key with
    | .string t => if (s == t) = true then e.val else lookV es s
    | _ => .pointer none

theorem findNow_str (s : ByteArray) : ∀ (es : List MapEntry) (i : Nat), (∀ e ∈ es, ∃ t, e.key = .string t) →
    (Instr.findNow .string (.string s) es i = some none ∧ lookV es s = .pointer none) ∨
    ∃ j e t, Instr.findNow .string (.string s) es i = some (some (i + j, e.val)) ∧ es[j]? = some e ∧ lookV es s = e.val ∧ e.key = .string t ∧ (s == t) = true
  | [], i, _ => .inl ⟨rfl, rfl⟩
  | e :: es, i, h => by
    obtain ⟨t, ht⟩ := h e (by simp)
    by_cases hst : (s == t) = true
    · exact .inr ⟨0, e, t, by simp [Instr.findNow, ht, Instr.sameNow, hst], rfl, by simp [lookV, ht, hst], ht, hst⟩
    · have hst' : (s == t) = false := by simpa using hst
      rcases findNow_str s es (i + 1) (fun x hx => h x (by simp [hx])) with ⟨h1, h2⟩ | ⟨j, e', t', h1, h2, h3, h4, h5⟩
      · exact .inl ⟨by simp [Instr.findNow, ht, Instr.sameNow, hst', h1], by simp [lookV, ht, hst', h2]⟩
      · refine .inr ⟨j + 1, e', t', ?_, by simpa using h2, by simp [lookV, ht, hst', h3], h4, h5⟩
        simp only [Instr.findNow, ht, Instr.sameNow, hst']
        rw [h1, show i + 1 + j = i + (j + 1) by omega]

theorem lookV_mem (s : ByteArray) (es : List MapEntry) (h : ∀ e ∈ es, ∃ t, e.key = .string t) : lookV es s = .pointer none ∨ ∃ e ∈ es, lookV es s = e.val ∧ ∃ t, e.key = .string t ∧ (s == t) = true := by
  rcases findNow_str s es 0 h with ⟨_, h2⟩ | ⟨j, e, t, _, h2, h3, h4, h5⟩
  · exact .inl h2
  · exact .inr ⟨e, List.mem_of_getElem? h2, h3, t, h4, h5⟩

theorem check9 (w : World) (em : Bool) (s : ByteArray) : (Instr.checkKey em 10000 9 (.string s)).run Try.prog w = .ok () w := by
  unfold Instr.checkKey
  simp [run_underlying Try.underlying9]

theorem run_look_nil (w : World) (s : ByteArray) : (Instr.lookup 49 (.map none) (.string s) false).run Try.prog w = .ok (.pointer none) w := by
  have hc := check9 w true s
  have hf : (Instr.findKey 9 (.string s) []).run Try.prog w = .ok none w := by
    simp [Instr.findKey, run_underlying Try.underlying9, Instr.findNow]
  simp [Instr.lookup, run_underlying Try.underlying49, hc, hf, Result.andThen]

theorem run_look (w : World) (m : Nat) (es : Array MapEntry) (clk : Nat) (s : ByteArray) (hm : w.heap[m]? = some (.map es clk)) (hk : ∀ e ∈ es.toList, ∃ t, e.key = .string t) :
    (Instr.lookup 49 (.map (some m)) (.string s) false).run Try.prog w = .ok (lookV es.toList s) w := by
  have hc := fun em => check9 w em s
  rcases findNow_str s es.toList 0 hk with ⟨h1, h2⟩ | ⟨j, e, t, h1, h2, h3, h4, h5⟩
  · have hf : (Instr.findKey 9 (.string s) es.toList).run Try.prog w = .ok none w := by
      simp [Instr.findKey, run_underlying Try.underlying9, h1]
    simp [Instr.lookup, run_underlying Try.underlying49, MapKept.run_getObj_map hm, hc, hf, Result.andThen, h2]
  · have hf : (Instr.findKey 9 (.string s) es.toList).run Try.prog w = .ok (some (0 + j, e.val)) w := by
      simp [Instr.findKey, run_underlying Try.underlying9, h1]
    simp [Instr.lookup, run_underlying Try.underlying49, MapKept.run_getObj_map hm, hc, hf, Result.andThen, h3]

/-- The world with one block set. -/
def putB (w : World) (m : Nat) (o : Obj) : World := { w with heap := w.heap.setIfInBounds m o }

theorem run_put (m : Nat) (es : Array MapEntry) (clk : Nat) (s : ByteArray) (v : Value) (hk : ∀ e ∈ es.toList, ∃ t, e.key = .string t) :
    ∃ es' clk', (∀ w : World, w.heap[m]? = some (.map es clk) → (Instr.mapUpdate 49 (.map (some m)) (.string s) v).run Try.prog w = .ok () (putB w m (.map es' clk'))) ∧ ∀ x ∈ es'.toList, x ∈ es.toList ∨ (x.key = .string s ∧ x.val = v) := by
  have hc := fun w => check9 w false s
  rcases findNow_str s es.toList 0 hk with ⟨h1, h2⟩ | ⟨j, e, t, h1, h2, h3, h4, h5⟩
  · have hf : ∀ w, (Instr.findKey 9 (.string s) es.toList).run Try.prog w = .ok none w := fun w => by
      simp [Instr.findKey, run_underlying Try.underlying9, h1]
    refine ⟨es.push ⟨.string s, v, clk⟩, clk + 1, fun w hm => ?_, fun x hx => ?_⟩
    · simp [Instr.mapUpdate, run_underlying Try.underlying49, MapKept.run_getObj_map hm, hc, hf, Result.andThen, MapKept.run_setObj_map _ hm, putB]
    · simp only [Array.toList_push, List.mem_append, List.mem_singleton] at hx
      rcases hx with hx | rfl
      · exact .inl hx
      · exact .inr ⟨rfl, rfl⟩
  · have hf : ∀ w, (Instr.findKey 9 (.string s) es.toList).run Try.prog w = .ok (some (j, e.val)) w := fun w => by
      rw [Nat.zero_add] at h1
      simp [Instr.findKey, run_underlying Try.underlying9, h1]
    have hj : es[j]? = some e := by simpa using h2
    have hst : s = t := (MapKept.bytes_beq s t).1 h5
    have hss : (s == s) = true := (MapKept.bytes_beq s s).2 rfl
    have hks : ∀ w, (Instr.keyThatStays (.string t) (.string s)).run Try.prog w = .ok (.string s) w := fun w => by
      subst hst
      simp [Instr.keyThatStays, Instr.sameBits, hss]
    refine ⟨es.modify j (fun x => { x with key := .string s, val := v }), clk, fun w hm => ?_, fun x hx => ?_⟩
    · simp [Instr.mapUpdate, run_underlying Try.underlying49, MapKept.run_getObj_map hm, hc, hf, Result.andThen, hj, h4, hks, MapKept.run_setObj_map _ hm, putB]
    · obtain ⟨i, hi⟩ := List.getElem?_of_mem hx
      rw [Array.getElem?_toList, Array.getElem?_modify] at hi
      by_cases hij : j = i
      · subst hij
        rw [if_pos rfl, hj] at hi
        simp at hi
        exact .inr ⟨by rw [← hi], by rw [← hi]⟩
      · rw [if_neg hij] at hi
        exact .inl (List.mem_of_getElem? (by simpa using hi))

theorem Try.info3 : (Try.prog.info? 3).map (fun i => (i.zero, i.size, i.bytes)) = some (some (.int .i64 0), 1, 8) := by kernel_rfl

/-- 'append(v, i)' on an owned row of ints: and where the new row lies. -/
theorem run_app_int (w : World) (B : Nat) (v : Value) (E : List Int) (i : Int) (a : Addr) (ty : TypeId) (hown : w.ownsRow B 3 1 v E.length (E.map (Value.int .i64))) (hc : w.cell? a = some (.int .i64 i)) (hl : E.length ≤ 1099511627776) (hB : B ≤ w.heap.size) :
    ∃ v' w', (Builtin.append_ #[27, 27] ty #[v, .slice (some a) 1 1]).run Try.prog w = .ok v' w' ∧ w'.ownsRow B 3 1 v' (E ++ [i]).length ((E ++ [i]).map (Value.int .i64)) ∧ w.grownBy w' v.ownBlock ∧
      (v'.ownBlock = v.ownBlock ∨ ∃ g, v'.ownBlock = some g ∧ w.heap.size ≤ g) := by
  obtain ⟨i0, hi0, hz0, hz1, hz2⟩ := info_parts Try.info3
  have hnews : ∀ (j : Nat) (u : Value), [Value.int .i64 i][j]? = some u → w.cell? (a.add j) = some u := by
    intro j u hj
    match j, hj with
    | 0, hj => simp at hj; subst hj; simpa [Addr.add] using hc
  have h1c : ∀ u ∈ [Value.int .i64 i], u.oneCell' = true := by intro u hu; simp at hu; subst hu; rfl
  obtain ⟨v', w', hr, h2, h3, _⟩ := run_append_own (P := Try.prog) w B 27 ty 3 i0 (.int .i64 0) 1 8 Try.underlying27 hi0 hz0 hz1 hz2 rfl (by decide) v E.length (E.map (Value.int .i64)) hown a 1 1 [.int .i64 i] rfl hnews h1c (by unfold maxLen; omega) (by omega) hB
  refine ⟨v', w', hr, by simpa using h2, h3, ?_⟩
  have hlen : ([Value.int .i64 i] : List Value).length = 1 * i0.size := by rw [hz1]; rfl
  rcases hown.2 with ⟨rfl, h0⟩ | ⟨g, cap, cur, rfl, hbg, hg, hnc, hcm, hcs, htake⟩
  · have hr2 := run_append_nil (P := Try.prog) w 27 ty 3 i0 (.int .i64 0) Try.underlying27 hi0 hz0 a 1 1 [.int .i64 i] hlen hnews (by omega) (by omega) (by rw [hz2]; omega)
    rw [hr2] at hr
    cases hr
    exact .inr ⟨w.heap.size, rfl, Nat.le_refl _⟩
  · by_cases hroom : E.length + 1 ≤ cap
    · have hr2 := run_append_room (P := Try.prog) w 27 ty 3 i0 Try.underlying27 hi0 g E.length cap cur hg a 1 1 [.int .i64 i] hlen hnews h1c hroom (by rw [hz1]; simp; omega)
      rw [hr2] at hr
      cases hr
      exact .inl rfl
    · have holds := hown.cells (g := g) rfl
      have hr2 := run_append_grow (P := Try.prog) w 27 ty 3 i0 (.int .i64 0) Try.underlying27 hi0 hz0 ⟨g, 0, none⟩ E.length cap (E.map (Value.int .i64)) (by rw [hz1]; simp) holds a 1 1 [.int .i64 i] hlen hnews (by omega) (by omega) (growslice_fits (by omega) (by rw [hz2]; omega))
      rw [hr2] at hr
      cases hr
      exact .inr ⟨w.heap.size, rfl, Nat.le_refl _⟩

end Go.Proofs.Qxb6600448a
