/-
  SEAT b6600554a: A REGION THAT DRAWS ITS ORDER, whose first two operations are forced (a move, then a call that may write), the rest quiet.
-/
import Derived.BigQuiet
import Derived.Deep.QuietTactic
namespace Go.Proofs.Qxb6600554a
open Go.RowKit

theorem wp_region_call {P : Program} {id : Nat} {Q : Exit → Act → World → Prop} {a : Act} {w : World} {o0 o1 : Oper} {rest : List Oper} {x : Operand} {f : FuncId} {args : Array Value}
    (hm : P.follows .mixedOrders = true)
    (hr0 : Region.ready .any (o0 :: o1 :: rest).toArray (Array.replicate (rest.length + 2) false) = [0])
    (hr1 : Region.ready .any (o0 :: o1 :: rest).toArray ((Array.replicate (rest.length + 2) false).setIfInBounds 0 true) = [1])
    (hs : Region.noSelect (o0 :: o1 :: rest).toArray = true)
    (hB : Region.lexFrom .any (o0 :: o1 :: rest).toArray rest.length 2 (((Array.replicate (rest.length + 2) false).setIfInBounds 0 true).setIfInBounds 1 true) = true)
    (hg0 : o0.guard = none) (hg1 : o1.guard = none)
    (h0 : o0.op = .move x)
    (h1 : (execOp (a.put o0.dst (a.eval x)).eval o1).run P w.drew = .ok (.enter f args) w.drew)
    (h : Calls P f args w.drew fun e w2 => ∃ v, e = .returned v ∧ wpQuiet P (o0 :: o1 :: rest).toArray (fun w' => ∃ n, w' = w2.drewN n) (fun a' => ∀ w', (∃ n, w' = w2.drewN n) → Q .normal a' w') rest ((a.put o0.dst (a.eval x)).put o1.dst v)) :
    (Code.region id (o0 :: o1 :: rest).toArray true).wp P Q a w := by
  refine wp_region_any hm ?_
  have hsz : (o0 :: o1 :: rest).toArray.size = rest.length + 1 + 1 := by simp
  rw [hsz]
  refine ⟨fun e => ?_, fun i hi => ?_⟩
  · rw [hr0] at e; cases e
  rw [hr0] at hi
  obtain rfl : i = 0 := by simpa using hi
  unfold wpOp
  have e0 : (o0 :: o1 :: rest).toArray[0]? = some o0 := by simp
  have hw0 : ∀ y, Region.wanted o0 y = true := by intro y; unfold Region.wanted; rw [hg0]
  have hw1 : ∀ y, Region.wanted o1 y = true := by intro y; unfold Region.wanted; rw [hg1]
  simp only [e0, hw0, if_true]
  refine .inl ?_
  unfold Oper.wp
  rw [BigFrame.run_move x h0, Oper.upon_value]
  refine ⟨fun e => ?_, fun i hi => ?_⟩
  · rw [hr1] at e; cases e
  rw [hr1] at hi
  obtain rfl : i = 1 := by simpa using hi
  unfold wpOp
  have e1 : (o0 :: o1 :: rest).toArray[1]? = some o1 := by simp
  simp only [e1, hw1, if_true]
  refine .inl ?_
  unfold Oper.wp
  have h1' : (execOp (a.put o0.dst (a.eval x)).eval o1).run P { w with drawn := w.drawn + 1 } = .ok (.enter f args) { w with drawn := w.drawn + 1 } := h1
  rw [h1', Oper.upon_enter]
  refine Calls.mono h ?_
  rintro e w2 ⟨v, rfl, hq⟩
  simp only
  refine wpAny_of_quiet (C := fun w' => ∃ n, w' = w2.drewN n) (Q := fun a' => ∀ w', (∃ n, w' = w2.drewN n) → Q .normal a' w') (fun _ w' hw' h => h w' hw') _ _ _ _ ⟨0, rfl⟩ ?_
  exact wpAnyQ_lex hs rest 2 _ _ (by intro j; simp [Nat.add_comm 2 j]) hB hq

end Go.Proofs.Qxb6600554a
