/-
  SEAT b6600062a: THE STATEMENT 'Rows.FnQuotedSizeEndsAtFirstOddRunSaid', PROVED: the frame of a row (after the guide's shell), the walk out of Qxb6600062aWSeven.
-/
import Derived.Test.Qxb6600062aRows
import Derived.Test.Qxb6600062aWSeven
import Derived.Test.Qxb6600062aHead
import Derived.WalkKit
import Derived.ProofKit
import Derived.OpenShut
import Derived.ShutString
import Derived.ChangeOld
import Derived.Below
import Derived.SliceStrings
namespace Go.Proofs.Qxb6600062a.fnQuotedSizeEndsAtFirstOddRun
open Go.ChangeShapes Go.WideShapes Go.ChangeAt Go.RowKit
open Go.ChangeMaps (open_string shut_string)
set_option linter.unusedVariables false

theorem own : ownKnob Try.prog.godebug = none := by kernel_rfl
theorem laidOut : laidOutB Try.prog = true := by kernel_rfl

/-- A slice of strings as the reading gives it, in the walks' words. -/
theorem strSl_of {w : World} {x : Addr} {ss : List ByteArray} {n : Nat} (hn : n ≤ ss.length) (h : ∀ i, i < ss.length → w.cell? (x.add i) = some (.string (ss.getD i ByteArray.empty))) :
    StrSl w (some x) (ss.take n) := by
  by_cases h0 : n = 0
  · exact .inl (by simp [h0])
  · obtain ⟨b, off, spot⟩ := x
    have hspot : spot = none := by simpa [Addr.add] using World.cell?_spot (h 0 (by omega))
    subst hspot
    have hc : ∀ j, j < ss.length → w.cell? ⟨b, off + j, none⟩ = some (.string (ss.getD j ByteArray.empty)) := fun j hj => by rw [← Go.WideShapes.add_plain]; exact h j hj
    refine .inr ⟨b, off, rfl, World.block_lt_of_cell? w _ (hc 0 (by omega)), fun i hi => ?_⟩
    have hi2 : i < n := by simp at hi; omega
    rw [hc i (by omega)]
    simp [List.getD_eq_getElem?_getD, hi2]

set_option maxRecDepth 100000 in
theorem lifted (os : Os) (started : os.Started) (H : Type) (enc : TypeId × Value → H) :
    ReturnsInHanded {} Try.checked os 10 .any (Rows.fnQuotedSizeEndsAtFirstOddRunSpec.pre6 enc Try.prog Try.f10 Rows.fnQuotedSizeEndsAtFirstOddRunRow.domain false) (Rows.fnQuotedSizeEndsAtFirstOddRunSpec.post enc Try.prog Try.f10 false true false false) := by
  refine returnsInHanded_of_change (C := Try.checked) own started (by kernel_rfl) Try.func10
    (ChangeSpec.witness6 (enc := enc) (C := Try.checked) false ⟨#[], #[.string ByteArray.empty, .string ByteArray.empty, .slice none 0 0, .int .i64 0, .int .i64 0], []⟩ 8 (by kernel_rfl) (by kernel_rfl) (by kernel_rfl) (by kernel_rfl)) ?_
  intro W base args ds gs before hval0 hW hcnd _
  have hval : ∀ (j : Nat) t v, Try.f10.params[j]? = some t → args[j]? = some v → Value.okWide Try.prog W .any base t v := hval0
  have hW' := hW
  obtain ⟨p, q, hA0, hV, rfl, hfz, hnd⟩ := hW
  have hA : DataW.TrodAll enc Try.prog W 0 (fun _ => true) true Try.f10.params.toList args.toList ds p := hA0
  rw [Try.params10] at hA hval
  obtain ⟨v0, vs0, d0, ds0, p0, q0, hargs, rfl, rfl, h0, r0⟩ := trodAll_cons hA
  obtain ⟨v1, vs1, d1, ds1, p1, q1, rfl, rfl, rfl, h1, r1⟩ := trodAll_cons r0
  obtain ⟨v2, vs2, d2, ds2, p2, q2, rfl, rfl, rfl, h2, r2⟩ := trodAll_cons r1
  obtain ⟨v3, vs3, d3, ds3, p3, q3, rfl, rfl, rfl, h3, r3⟩ := trodAll_cons r2
  obtain ⟨v4, vs4, d4, ds4, p4, q4, rfl, rfl, rfl, h4, r4⟩ := trodAll_cons r3
  obtain ⟨rfl, rfl, rfl⟩ := trodAll_nil r4
  obtain rfl : args = #[v0, v1, v2, v3, v4] := by cases args; simp_all
  obtain ⟨rfl, rfl⟩ := trodVars_none hV
  obtain ⟨s0, rfl, rfl, rfl, w0⟩ := open_string Try.underlying9 (hval 0 9 v0 rfl rfl) h0
  obtain ⟨s1, rfl, rfl, rfl, w1⟩ := open_string Try.underlying9 (hval 1 9 v1 rfl rfl) h1
  obtain ⟨a2, len2, cap2, rfl⟩ := okWide_slice Try.underlying29 (hval 2 29 v2 rfl rfl)
  obtain ⟨a3, rfl, rfl, rfl, w3⟩ := open_int Try.underlying3 (hval 3 3 v3 rfl rfl) h3
  obtain ⟨a4, rfl, rfl, rfl, w4⟩ := open_int Try.underlying3 (hval 4 3 v4 rfl rfl) h4
  have k2 := h2
  have lt2 : ∀ x ∈ p2, x.block < W.heap.size := by obtain ⟨m, hm⟩ := k2; exact DataW.trod_lt m _ _ _ hm
  obtain ⟨ss, hlen, hcap, hcm, hszs, hsl, hnn⟩ : ∃ ss : List ByteArray, ss.length = len2 ∧ ss.length ≤ cap2 ∧ cap2 ≤ maxLen ∧ (∀ k, k < ss.length → (ss.getD k ByteArray.empty).size ≤ maxLen) ∧ StrSl W a2 ss ∧ (a2 = none → ss = []) := by
    obtain ⟨fuel, hf⟩ := h2
    rcases open_strings Try.underlying29 Try.underlying9 (by kernel_rfl) hf with ⟨hcs, _⟩ | ⟨x, l, c, zs, hcs, _, hl, hm, hz, _, hcell, hwz⟩
    · simp [Value.cells] at hcs
      obtain ⟨rfl, rfl, rfl⟩ := hcs
      exact ⟨[], rfl, Nat.le_refl _, Nat.zero_le _, fun k hk => absurd hk (by simp), .inl rfl, fun _ => rfl⟩
    · simp [Value.cells] at hcs
      obtain ⟨rfl, rfl, rfl⟩ := hcs
      have hz' : zs.length = cap2 := by simpa using hz
      have hlt : (zs.take len2).length = len2 := by simp; omega
      refine ⟨zs.take len2, hlt, by omega, hm, fun k hk => ?_, strSl_of (by omega) hcell, fun h => by cases h⟩
      have hk2 : k < zs.length := by omega
      have e : (zs.take len2).getD k ByteArray.empty = zs[k] := by
        rw [List.getD_eq_getElem?_getD, List.getElem?_take, if_pos (by omega), List.getElem?_eq_getElem hk2]; rfl
      rw [e]
      exact hwz _ (List.getElem_mem hk2)
  subst hlen
  clear hA0 hval0
  refine (law10_any s0 s1 a2 cap2 ss a3 a4 W w0 w1 hcap hcm hszs hsl hnn).mono fun e W' ⟨he, bel⟩ => ?_
  subst he
  exact ⟨_, rfl, _, _, _, [], _, [], hW', trodAll_mk1 (shut_bool Try.underlying4 _), (trodAll_cons_mk (shut_string Try.underlying9 w0) (trodAll_cons_mk (shut_string Try.underlying9 w1) (trodAll_cons_mk (Below.trod laidOut (by kernel_rfl) (of_decide_eq_true (by kernel_rfl)) k2 bel lt2) (trodAll_cons_mk (shut_int Try.underlying3 w3) (trodAll_cons_mk (shut_int Try.underlying3 w4) trodAll_mk0))))), rfl, bel.frame _, fun h => by cases h⟩

theorem closed : joinedFacts Try.prog 10 Try.f10 Rows.fnQuotedSizeEndsAtFirstOddRunSpec Rows.fnQuotedSizeEndsAtFirstOddRunRow = true := by
  unfold joinedFacts
  repeat' (with_reducible refine Head.both ?_ ?_)
  all_goals first
    | (with_reducible exact Head.mayEnter_ok)
    | (rw [Head.lifts_ok]; rfl)
    | (rw [Head.make_ok]; rfl)
    | (as_aux_lemma => kernel_rfl)

theorem over : Rows.fnQuotedSizeEndsAtFirstOddRunRow.holds Try.pinned (OpenSpec.ofChange Rows.fnQuotedSizeEndsAtFirstOddRunSpec) :=
  OpenClaim.holds_of_wide 10 Try.f10 rfl rfl rfl rfl rfl rfl rfl ⟨rfl, rfl, rfl, rfl, rfl⟩ rfl rfl rfl rfl rfl (by kernel_rfl) Try.func10 closed
    (of_decide_eq_true (by kernel_rfl)) (by unfold Func.isWrapper; first | (rw [if_pos (by decide +kernel)]; kernel_rfl) | (rw [if_neg (by decide +kernel)]; exact ⟨rfl, rfl⟩))
    (fun os started H enc _ => lifted os started H enc)

/-- THE STATEMENT -/
theorem proved : Rows.FnQuotedSizeEndsAtFirstOddRunSaid := over
#print axioms proved
end Go.Proofs.Qxb6600062a.fnQuotedSizeEndsAtFirstOddRun
