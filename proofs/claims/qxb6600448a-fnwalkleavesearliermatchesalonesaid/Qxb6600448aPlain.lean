/-
  SEAT b6600448a: THE PLAIN LAWS: what 'add' does to the list of matches, and that it leaves what stands ahead of 'from' alone.
-/
namespace Go.Proofs.Qxb6600448a

/-- A match: its index and its segments. -/
abbrev M := Int × ByteArray

/-- The new match y sinks from behind towards the front: 'r' is what stands ahead of it, the last first; 'Bs' what stands behind. -/
def bub (frm : Nat) : List M → M → List M → List M
  | [], y, Bs => y :: Bs
  | x :: r, y, Bs => if frm < r.length + 1 ∧ y.1 < x.1 then bub frm r y (x :: Bs) else (x :: r).reverse ++ y :: Bs

def add1 (frm : Nat) (F : List M) (y : M) : List M := bub frm F.reverse y []

def addAll (frm : Nat) (seg : ByteArray) : List M → List Int → List M
  | F, [] => F
  | F, i :: ys => addAll frm seg (add1 frm F (i, seg)) ys

theorem bub_pre (pre : List M) : ∀ (r : List M) (y : M) (Bs : List M), bub pre.length (r ++ pre.reverse) y Bs = pre ++ bub 0 r y Bs
  | [], y, Bs => by
    cases hp : pre.reverse with
    | nil =>
      have : pre = [] := by simpa using hp
      subst this
      simp [bub]
    | cons x l =>
      have hl : l.length + 1 = pre.length := by
        have := congrArg List.length hp
        simp at this
        omega
      have e1 : bub pre.length (x :: l) y Bs = (x :: l).reverse ++ y :: Bs := by rw [bub, if_neg (by omega)]
      have e2 : bub 0 [] y Bs = y :: Bs := rfl
      rw [List.nil_append, e1, e2, ← hp, List.reverse_reverse]
  | x :: r, y, Bs => by
    rw [List.cons_append, bub, bub]
    by_cases h : y.1 < x.1
    · rw [if_pos ⟨by simp; omega, h⟩, if_pos ⟨by omega, h⟩]
      exact bub_pre pre r y (x :: Bs)
    · rw [if_neg (fun c => h c.2), if_neg (fun c => h c.2)]
      simp

theorem add1_pre (pre F : List M) (y : M) : add1 pre.length (pre ++ F) y = pre ++ add1 0 F y := by
  unfold add1
  rw [List.reverse_append]
  exact bub_pre pre F.reverse y []

theorem addAll_pre (pre : List M) (seg : ByteArray) : ∀ (ys : List Int) (F : List M), addAll pre.length seg (pre ++ F) ys = pre ++ addAll 0 seg F ys
  | [], F => rfl
  | i :: ys, F => by
    rw [addAll, addAll, add1_pre, addAll_pre pre seg ys]

theorem bub_length (frm : Nat) : ∀ (r : List M) (y : M) (Bs : List M), (bub frm r y Bs).length = r.length + 1 + Bs.length
  | [], y, Bs => by simp [bub]; omega
  | x :: r, y, Bs => by
    rw [bub]
    split
    · rw [bub_length frm r]; simp; omega
    · simp; omega

theorem add1_length (frm : Nat) (F : List M) (y : M) : (add1 frm F y).length = F.length + 1 := by
  unfold add1; rw [bub_length]; simp

theorem addAll_length (frm : Nat) (seg : ByteArray) : ∀ (ys : List Int) (F : List M), (addAll frm seg F ys).length = F.length + ys.length
  | [], F => rfl
  | i :: ys, F => by rw [addAll, addAll_length frm seg ys, add1_length]; simp; omega

theorem addAll_append (frm : Nat) (seg : ByteArray) : ∀ (ys zs : List Int) (F : List M), addAll frm seg F (ys ++ zs) = addAll frm seg (addAll frm seg F ys) zs
  | [], zs, F => rfl
  | i :: ys, zs, F => by rw [List.cons_append, addAll, addAll, addAll_append frm seg ys zs]

end Go.Proofs.Qxb6600448a
