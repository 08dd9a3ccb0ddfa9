/-
  SEAT b6600448a: THE STATEMENT 'Rows.FnWalkLeavesEarlierMatchesAloneSaid', PROVED: the frame of a row, the walk out of Qxb6600448aWNine.
-/
import Derived.Test.Qxb6600448aRows
import Derived.Test.Qxb6600448aWNine
import Derived.Test.Qxb6600448aHead
import Derived.WalkKit
import Derived.ProofKit
import Derived.OpenShut
import Derived.ShutString
import Derived.ChangeOld
import Derived.Below
import Derived.SliceStrings
import Derived.Deep.Slices
namespace Go.Proofs.Qxb6600448a.fnWalkLeavesEarlierMatchesAlone
open Go.ChangeShapes Go.WideShapes Go.ChangeAt Go.RowKit
open Go.ChangeMaps (open_string shut_string)
set_option linter.unusedVariables false

theorem own : ownKnob Try.prog.godebug = none := by kernel_rfl
theorem laidOut : laidOutB Try.prog = true := by kernel_rfl

theorem strSl_of {w : World} {x : Addr} {ss : List ByteArray} {n : Nat} (hn : n ≤ ss.length) (h : ∀ i, i < ss.length → w.cell? (x.add i) = some (.string (ss.getD i ByteArray.empty))) :
    StrSl w (some x) (ss.take n) := by
  by_cases h0 : n = 0
  · exact .inl (by simp [h0])
  · obtain ⟨b, off, spot⟩ := x
    have hspot : spot = none := by simpa [Addr.add] using World.cell?_spot (h 0 (by omega))
    subst hspot
    have hc : ∀ j, j < ss.length → w.cell? ⟨b, off + j, none⟩ = some (.string (ss.getD j ByteArray.empty)) := fun j hj => by rw [← Go.WideShapes.add_plain]; exact h j hj
    refine .inr ⟨b, off, rfl, World.block_lt_of_cell? w _ (hc 0 (by omega)), fun i hi => ?_⟩
    have hi2 : i < n := by simp at hi; omega
    rw [hc i (by omega)]
    simp [List.getD_eq_getElem?_getD, hi2]

/-- What one inner slice is. -/
def SegOk (w : World) (v : Value) (s : Seg) : Prop := v = segV s ∧ StrSl w s.1 s.2.2 ∧ (s.1 = none → s.2.2 = []) ∧ s.2.2.length ≤ 9223372036854775807 ∧ ∀ i, i < s.2.2.length → (s.2.2.getD i ByteArray.empty).size ≤ 9223372036854775807

theorem seg_of {H : Type} {enc : TypeId × Value → H} {w : World} {base : Nat} {spare : Nat → Bool} {held : Bool} {fuel : Nat} {v : Value} {x : DataW H × List MemPlace} (h : DataW.trod enc Try.prog w base spare held fuel 41 [v] = some x) : ∃ s, SegOk w v s := by
  rcases open_strings Try.underlying41 Try.underlying9 (by kernel_rfl) h with ⟨hcs, _⟩ | ⟨x, l, c, zs, hcs, _, hl, hm, hz, _, hcell, hwz⟩
  · simp at hcs
    subst hcs
    exact ⟨(none, 0, []), rfl, .inl rfl, fun _ => rfl, Nat.zero_le _, fun i hi => absurd hi (by simp)⟩
  · simp at hcs
    subst hcs
    have hz' : l ≤ zs.length := by rw [hz]; split <;> omega
    have hlt : (zs.take l).length = l := by simp; omega
    have hm' : c ≤ 9223372036854775807 := hm
    refine ⟨(some x, c, zs.take l), ?_, strSl_of hz' hcell, (fun h => by cases h), (by show (zs.take l).length ≤ _; omega), fun k hk => ?_⟩
    · show _ = Value.slice (some x) (zs.take l).length c
      rw [hlt]
    · have hk1 : k < (zs.take l).length := hk
      have hk2 : k < zs.length := by omega
      have e : (zs.take l).getD k ByteArray.empty = zs[k] := by
        rw [List.getD_eq_getElem?_getD, List.getElem?_take, if_pos (by omega), List.getElem?_eq_getElem hk2]; rfl
      show ((zs.take l).getD k ByteArray.empty).size ≤ _
      rw [e]
      exact hwz _ (List.getElem_mem hk2)

theorem segs_of {w : World} {x : Addr} {len : Nat} {V : Nat → Value} (h : ∀ i, i < len → w.cell? (x.add i) = some (V i) ∧ ∃ s, SegOk w (V i) s) : ∃ xs : List Seg, xs.length = len ∧ SegsAt w (some x) xs ∧ Sized xs := by
  obtain ⟨f, hf⟩ := Go.Deep.choose_lt (fun i hi => (h i hi).2)
  refine ⟨(List.range len).map f, by simp, ?_, ?_⟩
  · by_cases h0 : len = 0
    · exact .inl (by simp [h0])
    · obtain ⟨b, off, spot⟩ := x
      have hspot : spot = none := by simpa [Addr.add] using World.cell?_spot (h 0 (by omega)).1
      subst hspot
      have hc : ∀ j, j < len → w.cell? ⟨b, off + j, none⟩ = some (V j) := fun j hj => by rw [← Go.WideShapes.add_plain]; exact (h j hj).1
      refine .inr ⟨b, off, rfl, World.block_lt_of_cell? w _ (hc 0 (by omega)), fun i s hs => ?_⟩
      have hi : i < len := by simpa using (List.getElem?_eq_some_iff.1 hs).1
      have e : s = f i := by
        rw [List.getElem?_map, List.getElem?_range hi] at hs
        simpa using hs.symm
      subst e
      obtain ⟨k1, k2, k3, _⟩ := hf i hi
      exact ⟨by rw [hc i hi, k1]; rfl, k2, k3⟩
  · intro s hs
    obtain ⟨i, hi, rfl⟩ := List.mem_map.1 hs
    obtain ⟨_, _, _, k4, k5⟩ := hf i (by simpa using hi)
    exact ⟨k4, k5⟩

set_option maxRecDepth 100000 in
theorem lifted (os : Os) (started : os.Started) (H : Type) (enc : TypeId × Value → H) :
    ReturnsInHanded {} Try.checked os 6 .any (Rows.fnWalkLeavesEarlierMatchesAloneSpec.pre6 enc Try.prog Try.f6 Rows.fnWalkLeavesEarlierMatchesAloneRow.domain false) (Rows.fnWalkLeavesEarlierMatchesAloneSpec.post enc Try.prog Try.f6 false true false false) := by
  refine returnsInHanded_of_change (C := Try.checked) own started (by kernel_rfl) Try.func6
    (ChangeSpec.witness6 (enc := enc) (C := Try.checked) false ⟨#[], #[.slice none 0 0, .string ByteArray.empty, .slice none 0 0], []⟩ 8 (by kernel_rfl) (by kernel_rfl) (by kernel_rfl) (by kernel_rfl)) ?_
  intro W base args ds gs before hval0 hW hcnd _
  have hval : ∀ (j : Nat) t v, Try.f6.params[j]? = some t → args[j]? = some v → Value.okWide Try.prog W .any base t v := hval0
  have hW' := hW
  obtain ⟨p, q, hA0, hV, rfl, hfz, hnd⟩ := hW
  have hA : DataW.TrodAll enc Try.prog W 0 (fun _ => true) true Try.f6.params.toList args.toList ds p := hA0
  rw [Try.params6] at hA hval
  obtain ⟨v0, vs0, d0, ds0, p0, q0, hargs, rfl, rfl, h0, r0⟩ := trodAll_cons hA
  obtain ⟨v1, vs1, d1, ds1, p1, q1, rfl, rfl, rfl, h1, r1⟩ := trodAll_cons r0
  obtain ⟨v2, vs2, d2, ds2, p2, q2, rfl, rfl, rfl, h2, r2⟩ := trodAll_cons r1
  obtain ⟨rfl, rfl, rfl⟩ := trodAll_nil r2
  obtain rfl : args = #[v0, v1, v2] := by cases args; simp_all
  obtain ⟨rfl, rfl⟩ := trodVars_none hV
  obtain ⟨a0, len0, cap0, rfl⟩ := okWide_slice Try.underlying35 (hval 0 35 v0 rfl rfl)
  obtain ⟨s1, rfl, rfl, rfl, w1⟩ := open_string Try.underlying9 (hval 1 9 v1 rfl rfl) h1
  obtain ⟨a2, len2, cap2, rfl⟩ := okWide_slice Try.underlying27 (hval 2 27 v2 rfl rfl)
  have k0 := h0
  have k2 := h2
  have lt0 : ∀ x ∈ p0, x.block < W.heap.size := by obtain ⟨m, hm⟩ := k0; exact DataW.trod_lt m _ _ _ hm
  have lt2 : ∀ x ∈ p2, x.block < W.heap.size := by obtain ⟨m, hm⟩ := k2; exact DataW.trod_lt m _ _ _ hm
  obtain ⟨xs, hlen, hxm, hsa, hsz, hnn⟩ : ∃ xs : List Seg, xs.length = len0 ∧ xs.length ≤ 9223372036854775807 ∧ SegsAt W a0 xs ∧ Sized xs ∧ (a0 = none → xs = []) := by
    obtain ⟨fuel, hf⟩ := h0
    rcases Go.Deep.open_slice1 Try.underlying35 (by kernel_rfl) hf with ⟨hcs, _⟩ | ⟨x, l, c, m, n, V, D, Pl, hcs, _, hl, hm, hmm, _, hel⟩
    · simp [Value.cells] at hcs
      obtain ⟨rfl, rfl, rfl⟩ := hcs
      exact ⟨[], rfl, Nat.zero_le _, .inl rfl, fun x hx => (by cases hx), fun _ => rfl⟩
    · simp [Value.cells] at hcs
      obtain ⟨rfl, rfl, rfl⟩ := hcs
      have hlm : len0 ≤ m := by rw [hmm]; split <;> omega
      have hm' : cap0 ≤ 9223372036854775807 := hm
      obtain ⟨xs, g1, g2, g3⟩ := segs_of (w := W) (x := x) (len := len0) (V := V) (fun i hi => ⟨(hel i (by omega)).1, seg_of (hel i (by omega)).2⟩)
      exact ⟨xs, g1, by omega, g2, g3, fun h => by cases h⟩
  obtain ⟨ps, hpl, hpm, hpv⟩ : ∃ ps : List Int, ps.length = len2 ∧ ps.length ≤ 9223372036854775807 ∧ (IntsAt W (.slice a2 ps.length cap2) ps ∨ (ps = [] ∧ ∃ x c, Value.slice a2 ps.length cap2 = .slice (some x) 0 c)) := by
    obtain ⟨fuel, hf⟩ := h2
    rcases open_ints Try.underlying27 Try.underlying3 (by kernel_rfl) hf with ⟨hcs, _⟩ | ⟨x, l, c, zs, hcs, _, hl, hm, hz, _, hcell, hwz⟩
    · simp [Value.cells] at hcs
      obtain ⟨rfl, rfl, rfl⟩ := hcs
      exact ⟨[], rfl, Nat.zero_le _, .inl (.inl ⟨rfl, rfl⟩)⟩
    · simp [Value.cells] at hcs
      obtain ⟨rfl, rfl, rfl⟩ := hcs
      have hz' : len2 ≤ zs.length := by rw [hz]; split <;> omega
      have hm' : cap2 ≤ 9223372036854775807 := hm
      have hlt : (zs.take len2).length = len2 := by simp; omega
      refine ⟨zs.take len2, hlt, by omega, ?_⟩
      by_cases h0 : len2 = 0
      · exact .inr ⟨by simp [h0], x, cap2, by simp [h0]⟩
      · left
        obtain ⟨b, off, spot⟩ := x
        have hspot : spot = none := by simpa [Addr.add] using World.cell?_spot (hcell 0 (by omega))
        subst hspot
        have hc : ∀ j, j < zs.length → W.cell? ⟨b, off + j, none⟩ = some (.int .i64 (zs.getD j 0)) := fun j hj => by rw [← Go.WideShapes.add_plain]; exact hcell j hj
        refine .inr ⟨b, off, cap2, rfl, World.block_lt_of_cell? W _ (hc 0 (by omega)), fun i y hy => ?_⟩
        have hi : i < len2 := by have := (List.getElem?_eq_some_iff.1 hy).1; omega
        rw [List.getElem?_take, if_pos hi] at hy
        rw [hc i (by omega), List.getD_eq_getElem?_getD, hy]
        rfl
  subst hlen
  subst hpl
  clear hA0 hval0
  refine (law6_any a0 cap0 xs s1 a2 cap2 ps W hsa hnn hsz hxm w1 hpm hpv).mono fun e W' ⟨he, bel⟩ => ?_
  subst he
  exact ⟨_, rfl, _, _, _, [], _, [], hW', trodAll_mk1 (shut_bool Try.underlying4 _), (trodAll_cons_mk (Below.trod laidOut (by kernel_rfl) (of_decide_eq_true (by kernel_rfl)) k0 bel lt0) (trodAll_cons_mk (shut_string Try.underlying9 w1) (trodAll_cons_mk (Below.trod laidOut (by kernel_rfl) (of_decide_eq_true (by kernel_rfl)) k2 bel lt2) trodAll_mk0))), rfl, bel.frame _, fun h => by cases h⟩

theorem closed : joinedFacts Try.prog 6 Try.f6 Rows.fnWalkLeavesEarlierMatchesAloneSpec Rows.fnWalkLeavesEarlierMatchesAloneRow = true := by
  unfold joinedFacts
  repeat' (with_reducible refine Head.both ?_ ?_)
  all_goals first
    | (with_reducible exact Head.mayEnter_ok)
    | (rw [Head.lifts_ok]; rfl)
    | (rw [Head.make_ok]; rfl)
    | (as_aux_lemma => kernel_rfl)

theorem over : Rows.fnWalkLeavesEarlierMatchesAloneRow.holds Try.pinned (OpenSpec.ofChange Rows.fnWalkLeavesEarlierMatchesAloneSpec) :=
  OpenClaim.holds_of_wide 6 Try.f6 rfl rfl rfl rfl rfl rfl rfl ⟨rfl, rfl, rfl, rfl, rfl⟩ rfl rfl rfl rfl rfl (by kernel_rfl) Try.func6 closed
    (of_decide_eq_true (by kernel_rfl)) (by unfold Func.isWrapper; first | (rw [if_pos (by decide +kernel)]; kernel_rfl) | (rw [if_neg (by decide +kernel)]; exact ⟨rfl, rfl⟩))
    (fun os started H enc _ => lifted os started H enc)

/-- THE STATEMENT -/
theorem proved : Rows.FnWalkLeavesEarlierMatchesAloneSaid := over
#print axioms proved

end Go.Proofs.Qxb6600448a.fnWalkLeavesEarlierMatchesAlone
