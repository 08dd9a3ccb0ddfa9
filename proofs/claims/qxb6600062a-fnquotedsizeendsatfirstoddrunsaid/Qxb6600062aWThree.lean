/-
  SEAT b6600062a: WALKS 3: 'restOf' (24).
-/
import Derived.Test.Qxb6600062aWTwo
import Derived.Lib.AppendStr
import Derived.Lib.Strings
namespace Go.Proofs.Qxb6600062a
open Go.RowKit

theorem Try.info5 : (Try.prog.info? 5).map (fun i => (i.zero, i.size, i.bytes)) = some (some (.int .u8 0), 1, 1) := by kernel_rfl

def byteV (l : List UInt8) : List Value := l.map fun b => Value.int .u8 b.toNat
theorem byteV_append (l m : List UInt8) : byteV (l ++ m) = byteV l ++ byteV m := by simp [byteV]
theorem byteV_length (l : List UInt8) : (byteV l).length = l.length := by simp [byteV]
theorem strCells_byteV (s : ByteArray) : Lib.strCells s = byteV s.data.toList := rfl

/-- The bytes from s[i] on, then after, then m pieces from the t-th on. -/
def restTo (s : ByteArray) (i : Nat) (after : ByteArray) (ss : List ByteArray) (t m : Nat) : List UInt8 :=
  s.data.toList.drop i ++ after.data.toList ++ ((ss.drop t).take m).flatMap (·.data.toList)

theorem restTo_zero (s : ByteArray) (i : Nat) (after : ByteArray) (ss : List ByteArray) (t : Nat) : restTo s i after ss t 0 = s.data.toList.drop i ++ after.data.toList := by simp [restTo]

theorem restTo_succ (s : ByteArray) (i : Nat) (after : ByteArray) (ss : List ByteArray) (t m : Nat) (h : t + m < ss.length) : restTo s i after ss t (m + 1) = restTo s i after ss t m ++ (ss.getD (t + m) ByteArray.empty).data.toList := by
  unfold restTo
  have e : (ss.drop t)[m]? = some (ss.getD (t + m) ByteArray.empty) := by
    rw [List.getElem?_drop, List.getD_eq_getElem?_getD, List.getElem?_eq_getElem h]; rfl
  rw [List.take_add_one, e]
  simp

theorem sumSz_drop_le : ∀ (ss : List ByteArray) (t : Nat), sumSz (ss.drop t) ≤ sumSz ss
  | [], t => by simp
  | s :: l, 0 => by simp
  | s :: l, t + 1 => by
    have := sumSz_drop_le l t
    simp only [List.drop_succ_cons, sumSz]
    omega

theorem size_toList (s : ByteArray) : s.data.toList.length = s.size := by rw [Array.length_toList]; rfl

theorem flat_len : ∀ (ss : List ByteArray), (ss.flatMap (·.data.toList)).length = sumSz ss
  | [] => rfl
  | s :: l => by rw [List.flatMap_cons, List.length_append, flat_len l, size_toList]; rfl

theorem restTo_len (s : ByteArray) (i : Nat) (after : ByteArray) (ss : List ByteArray) (t m : Nat) : (restTo s i after ss t m).length ≤ s.size + after.size + sumSz ss := by
  unfold restTo
  have h1 := sumSz_take_le (ss.drop t) m
  have h2 := sumSz_drop_le ss t
  simp only [List.length_append, flat_len, List.length_drop, size_toList]
  omega

theorem hideP {p : Prop} (h : p) : Hid p := h

def RoP (L : List UInt8) (w : World) (e : Ending) (w' : World) : Prop :=
  ∃ v, e = .returned v ∧ w'.ownsRow w.heap.size 5 1 v L.length (byteV L) ∧ Below w.heap.size w w'
theorem RoP.mk {L : List UInt8} {w w' : World} {v : Value} (h1 : w'.ownsRow w.heap.size 5 1 v L.length (byteV L)) (h2 : Below w.heap.size w w') : RoP L w (.returned v) w' := ⟨v, rfl, h1, h2⟩

theorem own_step {w : World} {base : Nat} {v : Value} {n : Nat} {L M : List UInt8} {s : ByteArray} (hM : s.data.toList = M) (h : w.ownsRow base 5 1 v (L.length + n) (byteV L ++ Lib.strCells s)) (hn : n = s.size) : w.ownsRow base 5 1 v (L ++ M).length (byteV (L ++ M)) := by
  subst hM hn
  rw [byteV_append, List.length_append, size_toList, ← strCells_byteV]
  exact h

/-- 'buf = append(buf, s...)', buf a row of the call's own. -/
theorem wp_app (w0 w : World) {ops : Array Oper} {rest : List Oper} {o : Oper} {a : Act} {Q : Exit → Act → World → Prop} (hgd : o.guard = none) (sl x : Operand)
    (ho : o.op = .call { callee := .builtin .append, args := #[sl, x], argTypes := #[33, 9] }) (base : Nat) (v : Value) (L : List UInt8) (s : ByteArray) (hs : a.eval sl = v) (hx : a.eval x = .string s)
    (hown : w.ownsRow base 5 1 v L.length (byteV L)) (hbel : Below base w0 w) (hbase : base ≤ w.heap.size) (hbd : L.length + s.size ≤ 1099511627776)
    (h : ∀ v' w', w'.ownsRow base 5 1 v' (L ++ s.data.toList).length (byteV (L ++ s.data.toList)) → Below base w0 w' → base ≤ w'.heap.size → wpList Try.prog ops Q rest (a.put o.dst v') w') : wpList Try.prog ops Q (o :: rest) a w := by
  obtain ⟨i0, hi0, hz0, hz1, hz2⟩ := info_parts Try.info5
  refine Lib.wpList_append_own_string w hgd sl x 33 9 ho base 5 i0 Try.underlying33 Try.underlying9 hi0 hz0 hz1 hz2 v L.length (byteV L) hs hown s hx (by unfold maxLen; omega) (by omega) hbase ?_
  intro v' w' h1 h2 _
  exact h v' w' (own_step rfl h1 rfl) (hbel.grown h2 hbase (fun k hk => (hown.lt k hk).1)) (Nat.le_trans hbase h2.size)

set_option maxHeartbeats 1000000 in
theorem restOf_any (s : ByteArray) (i : Nat) (after : ByteArray) (a : Option Addr) (cap : Nat) (ss : List ByteArray) (t : Nat) (w : World)
    (hi : i ≤ s.size) (ht : t ≤ ss.length) (htot : s.size + after.size + 16 * ss.length + sumSz ss ≤ 1048576) (hc : StrSl w a ss) :
    Calls Try.prog 24 #[.string s, .int .i64 i, .string after, .slice a ss.length cap, .int .i64 t] w (RoP (restTo s i after ss t (ss.length - t)) w) := by
  have hn0 : w.ownsRow w.heap.size 5 1 (.slice none 0 0) ([] : List UInt8).length (byteV []) := World.ownsRow_nil _ _ _ _
  have hE1 : (s.extract i s.size).size ≤ s.size := by simp
  have hE2 : ([] ++ (s.extract i s.size).data.toList).length ≤ s.size := by rw [List.nil_append, size_toList]; exact hE1
  have hE : [] ++ (s.extract i s.size).data.toList ++ after.data.toList = restTo s i after ss t 0 := by
    rw [restTo_zero, List.nil_append, Lib.extract_data, List.take_of_length_le]
    rw [List.length_drop, ← Lib.size_eq]; exact Nat.le_refl _
  have HE : Hid ([] ++ (s.extract i s.size).data.toList ++ after.data.toList = restTo s i after ss t 0) := hE
  have HN : Hid (w.ownsRow w.heap.size 5 1 (.slice none 0 0) ([] : List UInt8).length (byteV [])) := hn0
  have HE2 : Hid (([] ++ (s.extract i s.size).data.toList).length ≤ s.size) := hE2
  have HB : Hid (∀ m, (restTo s i after ss t m).length ≤ 1048576) := fun m => by have := restTo_len s i after ss t m; omega
  clear hE hn0 hE2
  go_enter Try.func24, Try.ntmps24
  go_wp2_with (first
    | (at_builtin; refine wp_app w _ rfl (.tmp 13) (.tmp 16) rfl w.heap.size (.slice none 0 0) [] (s.extract i s.size) rfl rfl HN.out (Below.refl _ _) (Nat.le_refl _) (by have := HE2.out; simp; omega) ?_; intro v1 w1 hown1 hbel1 hb1; have HO1 := hideP hown1; have HL1 := hideP hbel1; clear hown1 hbel1)
    | (at_builtin; refine wp_app w _ rfl (.tmp 18) (.tmp 19) rfl w.heap.size v1 ([] ++ (s.extract i s.size).data.toList) after rfl rfl HO1.out HL1.out hb1 (by have := HE2.out; omega) ?_; intro v2 w2 hown2 hbel2 hb2; rw [HE.out] at hown2; have HO2 := hideP hown2; have HL2 := hideP hbel2; clear hown2 hbel2))
  rcases hc with rfl | ⟨b, off, rfl, hb, hc⟩
  · obtain rfl : t = 0 := by simpa using ht
    refine wp_loop_rounds 1 ?_
    rw [rounds_succ]
    go_wp2
    go_ret
    exact RoP.mk HO2.out HL2.out
  go_loopw [11, 12] (fun v j wr => ∃ m : Nat, t + m ≤ ss.length ∧ j = .int .i64 ((t + m : Nat) : Int) ∧ wr.ownsRow w.heap.size 5 1 v (restTo s i after ss t m).length (byteV (restTo s i after ss t m)) ∧ Below w.heap.size w wr ∧ w.heap.size ≤ wr.heap.size) (fun _ j _ => ss.length - (intOf j).toNat)
  case atStart => exact ⟨0, by omega, rfl, HO2.out, HL2.out, hb2⟩
  case round =>
    obtain ⟨m, hm, rfl, hown, hbr, hbr2⟩ := hrel
    clear HO1 HL1 HO2 HL2 HE HN HE2
    have HO := hideP hown
    clear hown
    by_cases hlt : t + m < ss.length
    · obtain ⟨x, hx⟩ : ∃ x, x = ss.getD (t + m) ByteArray.empty := ⟨_, rfl⟩
      have hcx : wr.cell? ⟨b, off + (t + m), none⟩ = some (.string x) := by rw [hx]; exact (hbr.cell (by exact hb)).trans (hc (t + m) hlt)
      have hlx : (restTo s i after ss t m).length + x.size ≤ 1048576 := by
        have h1 := HB.out (m + 1)
        rw [restTo_succ s i after ss t m hlt, ← hx, List.length_append, size_toList] at h1
        exact h1
      have HX : Hid (restTo s i after ss t (m + 1) = restTo s i after ss t m ++ x.data.toList) := by rw [hx]; exact restTo_succ s i after ss t m hlt
      have HBr : Hid (Below w.heap.size w wr) := hbr
      have HLX : Hid ((restTo s i after ss t m).length + x.size ≤ 1048576) := hlx
      clear hx hc hbr hlx HB
      go_wp2_with (at_builtin; refine wp_app w _ rfl (.tmp 28) (.tmp 32) rfl w.heap.size _ (restTo s i after ss t m) x rfl rfl HO.out HBr.out hbr2 (by have := HLX.out; omega) ?_; intro v3 w3 hown3 hbel3 hb3; rw [← HX.out] at hown3; have HO3 := hideP hown3; have HL3 := hideP hbel3; clear hown3 hbel3)
      go_roundw
      case rel => exact ⟨m + 1, by omega, by go_num, HO3.out, HL3.out, hb3⟩
      case measure => simp [intOf]; omega
    · obtain rfl : m = ss.length - t := by omega
      clear hc HB
      go_wp2
      go_ret
      exact RoP.mk HO.out hbr

end Go.Proofs.Qxb6600062a
