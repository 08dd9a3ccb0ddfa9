/-
  SEAT b6600448a: WALKS 4: 'add' (31).
-/
import Derived.Test.Qxb6600448aWThree
namespace Go.Proofs.Qxb6600448a
open Go.RowKit
set_option linter.unusedVariables false

theorem Try.info65 : (Try.prog.info? 65).map (fun i => (i.zero, i.size, i.bytes)) = some (some (.agg #[.int .i64 0, .pointer none, .string ⟨#[]⟩]), 3, 32) := by kernel_rfl

def mCells (m : M) : List Value := [.int .i64 m.1, .pointer none, .string m.2]
def rowOf (F : List M) : List Value := F.flatMap mCells

theorem rowOf_length (F : List M) : (rowOf F).length = F.length * 3 := by
  induction F with
  | nil => rfl
  | cons x l ih =>
    have : rowOf (x :: l) = mCells x ++ rowOf l := rfl
    rw [this, List.length_append, ih]
    simp [mCells]
    omega

theorem rowOf_append (F G : List M) : rowOf (F ++ G) = rowOf F ++ rowOf G := by simp [rowOf]

/-- The lookup in memory. -/
structure LkAt (W : World) (lb sb tb : Nat) (frm : Nat) (seg : ByteArray) (n : Nat) : Prop where
  c0 : W.cell? ⟨lb, 0, none⟩ = some (.pointer (some ⟨sb, 0, none⟩))
  c1 : W.cell? ⟨lb, 1, none⟩ = some (.string seg)
  c2 : W.cell? ⟨lb, 2, none⟩ = some (.int .i64 frm)
  s0 : W.cell? ⟨sb, 0, none⟩ = some (.slice (some ⟨tb, 0, none⟩) n n)
  t : ∀ i, i < n → W.cell? ⟨tb, i, none⟩ = some (.pointer none)
  lt : lb < W.heap.size ∧ sb < W.heap.size ∧ tb < W.heap.size

def AdP (W : World) (G : List M) (e : Ending) (w' : World) : Prop := ∃ v', e = .returned v' ∧ w'.ownsRow W.heap.size 65 3 v' G.length (rowOf G) ∧ Below W.heap.size W w'

theorem step_app (w : World) {ops : Array Oper} {o : Oper} {a : Act} {K : Act → World → Prop} {Q : Exit → Act → World → Prop} {X : Prop}
    (hg : o.guard = none) (s x : Operand) (hop : o.op = Op.call { callee := Callee.builtin Builtin.append, args := #[s, x], argTypes := #[62, 62] })
    (base : Nat) (v : Value) (F : List M) (y : M) (ad : Addr) (hs : a.eval s = v) (hx : a.eval x = .slice (some ad) 1 1) (hcell : ∀ j u, (mCells y)[j]? = some u → w.cell? (ad.add j) = some u)
    (hown : w.ownsRow base 65 3 v F.length (rowOf F)) (hbase : base ≤ w.heap.size) (hbd : F.length ≤ 1099511627776)
    (hK : ∀ g c w', w'.ownsRow base 65 3 (.slice (some ⟨g, 0, none⟩) (F.length + 1) c) (F.length + 1) (rowOf (F ++ [y])) → w.grownBy w' v.ownBlock → K (a.put o.dst (.slice (some ⟨g, 0, none⟩) (F.length + 1) c)) w') :
    if Region.wanted o (yielded ops a.tmps) = true then Oper.wp Try.prog o a w K Q else X := by
  have hw : Region.wanted o (yielded ops a.tmps) = true := by simp [Region.wanted, hg]
  rw [if_pos hw]
  obtain ⟨i0, hi0, hz0, hz1, hz2⟩ := info_parts Try.info65
  obtain ⟨v', w', hr, h2, h3, _⟩ := run_append_own (P := Try.prog) w base 62 o.type 65 i0 _ 3 32 Try.underlying62 hi0 hz0 hz1 hz2 rfl (by decide) v F.length (rowOf F) hown ad 1 1 (mCells y) rfl hcell (by intro u hu; simp [mCells] at hu; rcases hu with rfl | rfl | rfl <;> rfl) (by unfold maxLen; omega) (by omega) hbase
  have h2' : w'.ownsRow base 65 3 v' (F.length + 1) (rowOf (F ++ [y])) := by
    rw [rowOf_append]
    have : rowOf [y] = mCells y := by simp [rowOf]
    rw [this]; exact h2
  have hex : ∃ g c, v' = .slice (some ⟨g, 0, none⟩) (F.length + 1) c := by
    rcases h2'.2 with ⟨_, h5⟩ | ⟨g, c, cur, h5, _⟩
    · omega
    · exact ⟨g, c, h5⟩
  obtain ⟨g, c, rfl⟩ := hex
  unfold Oper.wp
  simp [execOp, hop, resolve, invoke, builtin, hs, hx, hr, Result.andThen]
  exact hK g c w' h2' h3

theorem cell3 (w : World) (y : M) : ∀ j u, (mCells y)[j]? = some u → (w.alloc (.cells #[.int .i64 y.1, .pointer none, .string y.2] 65)).cell? ((⟨w.heap.size, 0, none⟩ : Addr).add j) = some u := by
  intro j u hj
  match j, hj with
  | 0, hj => simp [mCells] at hj; subst hj; simp [Addr.add]
  | 1, hj => simp [mCells] at hj; subst hj; simp [Addr.add]
  | 2, hj => simp [mCells] at hj; subst hj; simp [Addr.add]

theorem rowOf_at (A : List M) (x : M) (Bs : List M) (k : Nat) (hk : k < 3) : (rowOf (A ++ x :: Bs))[A.length * 3 + k]? = (mCells x)[k]? := by
  have h : rowOf (A ++ x :: Bs) = rowOf A ++ (mCells x ++ rowOf Bs) := by rw [rowOf_append]; rfl
  rw [h, List.getElem?_append_right (by rw [rowOf_length]; omega), rowOf_length, List.getElem?_append_left (by simp [mCells]; omega)]
  congr 1
  omega

theorem cells_at {w : World} {base g c n : Nat} {A Bs : List M} {x : M} (h : w.ownsRow base 65 3 (.slice (some ⟨g, 0, none⟩) n c) n (rowOf (A ++ x :: Bs))) :
    w.cell? ⟨g, A.length * 3, none⟩ = some (.int .i64 x.1) ∧ w.cell? ⟨g, A.length * 3 + 1, none⟩ = some (.pointer none) ∧ w.cell? ⟨g, A.length * 3 + 2, none⟩ = some (.string x.2) := by
  have hn : (rowOf (A ++ x :: Bs)).length = n * 3 := h.1
  have hl : A.length * 3 + 3 ≤ n * 3 := by rw [rowOf_length] at hn; simp at hn; omega
  refine ⟨?_, ?_, ?_⟩
  · rw [h.cellAt _ (by omega)]; exact rowOf_at A x Bs 0 (by omega)
  · rw [h.cellAt _ (by omega)]; exact rowOf_at A x Bs 1 (by omega)
  · rw [h.cellAt _ (by omega)]; exact rowOf_at A x Bs 2 (by omega)

theorem cells3 {w : World} {base g c n : Nat} {A Bs : List M} {x y : M} (h : w.ownsRow base 65 3 (.slice (some ⟨g, 0, none⟩) n c) n (rowOf (A ++ [x] ++ y :: Bs))) :
    w.cell? ⟨g, A.length * 3, none⟩ = some (.int .i64 x.1) ∧ w.cell? ⟨g, A.length * 3 + 1, none⟩ = some (.pointer none) ∧ w.cell? ⟨g, A.length * 3 + 2, none⟩ = some (.string x.2) := by
  rw [List.append_assoc] at h
  exact cells_at h

theorem cells3' {w : World} {base g c n : Nat} {A Bs : List M} {x y : M} (h : w.ownsRow base 65 3 (.slice (some ⟨g, 0, none⟩) n c) n (rowOf (A ++ [x] ++ y :: Bs))) :
    w.cell? ⟨g, (A.length + 1) * 3, none⟩ = some (.int .i64 y.1) ∧ w.cell? ⟨g, (A.length + 1) * 3 + 1, none⟩ = some (.pointer none) ∧ w.cell? ⟨g, (A.length + 1) * 3 + 2, none⟩ = some (.string y.2) := by
  have := cells_at h
  simpa using this

theorem set3 (A : List Value) (a b c : Value) (R : List Value) (a' b' c' : Value) :
    (((A ++ a :: b :: c :: R).set A.length a').set (A.length + 1) b').set (A.length + 2) c' = A ++ a' :: b' :: c' :: R := by
  rw [List.set_append_right _ _ (Nat.le_refl _), List.set_append_right _ _ (by omega), List.set_append_right _ _ (by omega)]
  simp [Nat.add_sub_cancel_left]

theorem rowOf_cut (A : List M) (x : M) (R : List M) : rowOf (A ++ x :: R) = rowOf A ++ .int .i64 x.1 :: .pointer none :: .string x.2 :: rowOf R := by
  rw [rowOf_append]; rfl

theorem put3 {w : World} {base g c n : Nat} {A R : List M} {x : M} (y : M) (h : w.ownsRow base 65 3 (.slice (some ⟨g, 0, none⟩) n c) n (rowOf (A ++ x :: R))) :
    (((w.setCell ⟨g, A.length * 3, none⟩ (.int .i64 y.1)).setCell ⟨g, A.length * 3 + 1, none⟩ (.pointer none)).setCell ⟨g, A.length * 3 + 2, none⟩ (.string y.2)).ownsRow base 65 3 (.slice (some ⟨g, 0, none⟩) n c) n (rowOf (A ++ y :: R)) := by
  have h1 := (h.stored (A.length * 3) (.int .i64 y.1)).1
  have h2 := (h1.stored (A.length * 3 + 1) (.pointer none)).1
  have h3 := (h2.stored (A.length * 3 + 2) (.string y.2)).1
  rw [rowOf_cut, ← rowOf_length A, set3] at h3
  rw [rowOf_cut, ← rowOf_length A]
  exact h3

theorem swap6 {w W : World} {base g c n : Nat} {A R : List M} {x y : M} {k : Nat} (hk : k = A.length) (h : w.ownsRow base 65 3 (.slice (some ⟨g, 0, none⟩) n c) n (rowOf (A ++ [x] ++ y :: R))) (hb : Below base W w) :
    ∃ w2, ((((((w.setCell ⟨g, k * 3, none⟩ (.int .i64 y.1)).setCell ⟨g, k * 3 + 1, none⟩ (.pointer none)).setCell ⟨g, k * 3 + 2, none⟩ (.string y.2)).setCell ⟨g, (k + 1) * 3, none⟩ (.int .i64 x.1)).setCell ⟨g, (k + 1) * 3 + 1, none⟩ (.pointer none)).setCell ⟨g, (k + 1) * 3 + 2, none⟩ (.string x.2)) = w2 ∧ w2.ownsRow base 65 3 (.slice (some ⟨g, 0, none⟩) n c) n (rowOf (A ++ y :: x :: R)) ∧ Below base W w2 := by
  subst hk
  have hg : base ≤ g := (h.lt g rfl).1
  refine ⟨_, rfl, ?_, (((((hb.setCell hg _).setCell hg _).setCell hg _).setCell hg _).setCell hg _).setCell hg _⟩
  rw [List.append_assoc] at h
  have h1 := put3 y h
  have e : A ++ y :: (y :: R) = (A ++ [y]) ++ y :: R := by simp
  have h2 : _ := put3 (A := A ++ [y]) (x := y) (R := R) x (by rw [← e]; exact h1)
  have e2 : (A ++ [y]) ++ x :: R = A ++ y :: x :: R := by simp
  rw [e2] at h2
  simpa using h2

set_option maxRecDepth 100000 in
set_option maxHeartbeats 1000000 in
theorem add_any (W : World) (lb sb tb frm : Nat) (seg : ByteArray) (n : Nat) (hL : LkAt W lb sb tb frm seg n) (F : List M) (v : Value) (i : Nat) (w : World) (hb : Below W.heap.size W w) (hsz : W.heap.size ≤ w.heap.size)
    (hown : w.ownsRow W.heap.size 65 3 v F.length (rowOf F)) (hfrm : frm ≤ F.length) (hi : i < n) (hn : n ≤ 65536) (hbd : F.length ≤ 1048576) :
    Calls Try.prog 31 #[.pointer (some ⟨lb, 0, none⟩), v, .int .i64 i] w (AdP W (add1 frm F (i, seg))) := by
  have d0 : w.cell? ⟨lb, 0, none⟩ = some (.pointer (some ⟨sb, 0, none⟩)) := (hb.cell (by exact hL.lt.1)).trans hL.c0
  have d1 : w.cell? ⟨lb, 1, none⟩ = some (.string seg) := (hb.cell (by exact hL.lt.1)).trans hL.c1
  have e0 : w.cell? ⟨sb, 0, none⟩ = some (.slice (some ⟨tb, 0, none⟩) n n) := (hb.cell (by exact hL.lt.2.1)).trans hL.s0
  have e1 : w.cell? ⟨tb, i, none⟩ = some (.pointer none) := (hb.cell (by exact hL.lt.2.2)).trans (hL.t i hi)
  have hii : (i : Int) < (n : Int) := by omega
  have HL := hideP hL
  have HB := hideP hb
  have HO := hideP hown
  clear hL hb hown
  go_enter Try.func31, Try.ntmps31
  go_wp2
  go_region_law (refine step_app _ rfl (.tmp 8) (.tmp 25) rfl W.heap.size v F (i, seg) ⟨w.heap.size, 0, none⟩ (by simp [Act.eval]) (by simp [Act.eval]) (by exact cell3 w (i, seg)) (by exact (HO.out.alloc _).drew) (Nat.le_trans hsz (by simp)) (by omega) ?_; intro g c w1 hown1 hgr1)
  all_goals clear d0 d1 e0 e1
  all_goals
    have HB1 : Hid (Below W.heap.size W w1) := by
      have h := (HB.out.alloc hsz (.cells #[.int .i64 (i : Int), .pointer none, .string seg] 65)).drew
      exact h.grown hgr1 (Nat.le_trans hsz (by simp)) (fun k hk => (HO.out.lt k hk).1)
    have HO1 := hideP hown1
    clear hown1 hgr1
    go_wp2
    go_loopw [7] (fun jv wr => ∃ (A Bs : List M), jv = .int .i64 (A.length : Nat) ∧ frm ≤ A.length ∧ A.length + Bs.length = F.length ∧ bub frm A.reverse ((i : Int), seg) Bs = add1 frm F ((i : Int), seg) ∧ wr.ownsRow W.heap.size 65 3 (.slice (some ⟨g, 0, none⟩) (F.length + 1) c) (F.length + 1) (rowOf (A ++ ((i : Int), seg) :: Bs)) ∧ Below W.heap.size W wr) (fun jv _ => (intOf jv).toNat)
    case atStart => exact ⟨F, [], by go_num, hfrm, by simp, rfl, HO1.out, HB1.out⟩
    case round =>
      obtain ⟨A, Bs, rfl, hA, hAB, hbub, hw1, hw2⟩ := hrel
      clear HO HB HO1 HB1
      have d2 : wr.cell? ⟨lb, 2, none⟩ = some (.int .i64 frm) := (hw2.cell (by exact HL.out.lt.1)).trans HL.out.c2
      have HO := hideP hw1
      have HB := hideP hw2
      have HU := hideP hbub
      clear hw1 hw2 hbub
      by_cases hlt : frm < A.length
      · obtain ⟨A', x, rfl⟩ : ∃ A' x, A = A' ++ [x] := by
          have : A ≠ [] := by intro h; subst h; simp at hlt
          exact ⟨A.dropLast, A.getLast this, (List.dropLast_concat_getLast this).symm⟩
        obtain ⟨m1, m2, m3⟩ := cells3 HO.out
        obtain ⟨n1, n2, n3⟩ := cells3' HO.out
        obtain ⟨k, hk⟩ : ∃ k, k = A'.length := ⟨_, rfl⟩
        have hl : (A' ++ [x]).length = k + 1 := by simp [hk]
        rw [hl] at hlt hA hAB ⊢
        rw [← hk] at m1 m2 m3 n1 n2 n3
        have HK := hideP hk
        clear hk hl
        by_cases hc : (i : Int) < x.1
        · have f0 := HO.out.frozenAt (k * 3)
          have f1 := HO.out.frozenAt (k * 3 + 1)
          have f2 := HO.out.frozenAt (k * 3 + 2)
          have f3 := HO.out.frozenAt ((k + 1) * 3)
          have f4 := HO.out.frozenAt ((k + 1) * 3 + 1)
          have f5 := HO.out.frozenAt ((k + 1) * 3 + 2)
          have hkl : (k : Int) < (F.length : Int) := by omega
          have hk1 : (k : Int) + 1 < (F.length : Int) + 1 := by omega
          go_wp2
          go_region
          obtain ⟨w2, hw2, hO2, hB2⟩ := swap6 HK.out HO.out HB.out
          rw [hw2]
          have HO2 := hideP hO2
          have HB2 := hideP hB2
          clear hw2 hO2 hB2 f0 f1 f2 f3 f4 f5 m1 m2 m3 n1 n2 n3 d2
          go_wp2
          go_roundw
          case rel =>
            refine ⟨A', x :: Bs, by rw [← HK.out], by have := HK.out; omega, by have := HK.out; simp; omega, ?_, HO2.out.drew, HB2.out.drew⟩
            rw [← HU.out, List.reverse_append]
            have := HK.out
            simp only [List.reverse_cons, List.reverse_nil, List.nil_append, List.singleton_append]
            rw [bub, if_pos ⟨by first | (simp; omega) | (rw [List.length_reverse]; omega), hc⟩]
          case measure => simp [intOf]
        · go_wp2
          go_ret
          refine ⟨_, rfl, ?_, HB.out⟩
          have e : add1 frm F ((i : Int), seg) = A' ++ [x] ++ ((i : Int), seg) :: Bs := by
            rw [← HU.out, List.reverse_append]
            simp only [List.reverse_cons, List.reverse_nil, List.nil_append, List.singleton_append]
            rw [bub, if_neg (by rintro ⟨_, h⟩; exact absurd h (by simpa using hc))]
            simp
          rw [e, ← e, add1_length, e]
          exact HO.out
      · go_wp2
        go_ret
        refine ⟨_, rfl, ?_, HB.out⟩
        have e : add1 frm F ((i : Int), seg) = A ++ ((i : Int), seg) :: Bs := by
          rw [← HU.out]
          cases hr : A.reverse with
          | nil =>
            have : A = [] := by simpa using hr
            subst this
            rfl
          | cons z l =>
            have hl : A.length = l.length + 1 := by
              have := congrArg List.length hr
              simpa using this
            rw [bub, if_neg (by omega), ← hr, List.reverse_reverse]
        rw [add1_length, e]
        exact HO.out

end Go.Proofs.Qxb6600448a
