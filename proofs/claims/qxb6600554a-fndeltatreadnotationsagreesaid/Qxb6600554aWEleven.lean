/-
  SEAT b6600554a: WALKS 11: 'clock' (44).
-/
import Derived.Test.Qxb6600554aWNine
import Derived.Test.Qxb6600554aWSix
import Derived.Laws.AppendOwn
import Derived.Handy
namespace Go.Proofs.Qxb6600554a
open Go.RowKit
set_option linter.unusedVariables false

theorem Try.info2 : (Try.prog.info? 2).map (fun i => (i.zero, i.size, i.bytes)) = some (some (.int .i64 0), 1, 8) := by kernel_rfl

theorem info_parts {P : Program} {t : TypeId} {z : Option Value} {a b : Nat} (h : (P.info? t).map (fun i => (i.zero, i.size, i.bytes)) = some (z, a, b)) :
    ∃ i, P.info? t = some i ∧ i.zero = z ∧ i.size = a ∧ i.bytes = b := by
  cases hi : P.info? t with
  | none => rw [hi] at h; cases h
  | some i =>
    rw [hi] at h
    simp at h
    exact ⟨i, rfl, h.1, h.2.1, h.2.2⟩

def iv (n : Int) : Value := .int .i64 n

theorem own_just {b B : Nat} {w w' : World} {v : Value} {n : Nat} {xs : List Value} (hb : b < B) (hJ : Just b w w') (h : w.ownsRow B 2 1 v n xs) : w'.ownsRow B 2 1 v n xs := by
  obtain ⟨h1, h2 | ⟨g, cap, cur, g1, g2, g3, g4⟩⟩ := h
  · exact ⟨h1, .inl h2⟩
  · exact ⟨h1, .inr ⟨g, cap, cur, g1, g2, by rw [hJ.block g (by omega)]; exact g3, g4⟩⟩

theorem DAt.lt {w : World} {b : Nat} {s : ByteArray} {i : Nat} (h : DAt w b s i) : b < w.heap.size := by
  unfold DAt at h
  exact (Array.getElem?_eq_some_iff.1 h).1

theorem DAt.alloc {w : World} {b : Nat} {s : ByteArray} {i : Nat} (h : DAt w b s i) (o : Obj) : DAt (w.alloc o) b s i := by
  have hl := h.lt
  unfold DAt at *
  show (w.heap.push o)[b]? = _
  rw [Array.getElem?_push_lt hl]
  rw [← h, Array.getElem?_eq_getElem hl]

theorem alloc_cell (w : World) (n : Nat) : (w.alloc (.cells #[.int .i64 (n : Int)] 2)).cell? ⟨w.heap.size, 0, none⟩ = some (iv (n : Int)) := by
  rw [World.cell?_alloc_mark]
  rfl
theorem alloc_size (w : World) (o : Obj) : (w.alloc o).heap.size = w.heap.size + 1 := by
  show (w.heap.push o).size = _
  simp

/-- 'parts = append(parts, n)'. -/
theorem wp_appC (w0 w : World) {ops : Array Oper} {rest : List Oper} {o : Oper} {a : Act} {Q : Exit → Act → World → Prop} (hgd : o.guard = none) (sl x : Operand)
    (ho : o.op = .call { callee := .builtin .append, args := #[sl, x], argTypes := #[66, 66] }) (b B : Nat) (s : ByteArray) (p : Nat) (v : Value) (W : List Int) (n : Int) (ad : Addr) (hs : a.eval sl = v) (hx : a.eval x = .slice (some ad) 1 1)
    (hcell : w.cell? ad = some (iv n)) (hown : w.ownsRow B 2 1 v W.length (W.map iv)) (hD : DAt w b s p) (hbB : b < B) (hbel : Below b w0 w) (hbase : B ≤ w.heap.size) (hbd : W.length ≤ 1099511627776)
    (h : ∀ v' w', w'.ownsRow B 2 1 v' (W ++ [n]).length ((W ++ [n]).map iv) → DAt w' b s p → Below b w0 w' → B ≤ w'.heap.size → wpList Try.prog ops Q rest (a.put o.dst v') w') : wpList Try.prog ops Q (o :: rest) a w := by
  obtain ⟨i0, hi0, hz0, hz1, hz2⟩ := info_parts Try.info2
  refine wpList_append_own w hgd sl x 66 ho B 2 i0 (.int .i64 0) 1 8 Try.underlying66 hi0 hz0 hz1 hz2 rfl (by decide) v W.length (W.map iv) hs hown ad 1 1 [iv n] hx rfl ?_ ?_ ?_ ?_ hbase ?_
  · intro j u hj
    match j, hj with
    | 0, hj => simp at hj; subst hj; simpa [Addr.add] using hcell
  · intro u hu; simp at hu; subst hu; rfl
  · unfold maxLen; omega
  · omega
  · intro v' w' h1 h2 _
    have hne : ∀ k, v.ownBlock = some k → B ≤ k := fun k hk => (hown.lt k hk).1
    refine h v' w' (by simpa using h1) ?_ (hbel.grown h2 (by omega) (fun k hk => by have := hne k hk; omega)) (Nat.le_trans hbase h2.size)
    have hl := hD.lt
    unfold DAt at *
    rw [h2.block b hl (fun e => by have := hne b e.symm; omega)]
    exact hD

def clk : Nat → List UInt8 → Option (List Int)
  | 0, _ => none
  | f + 1, l =>
    if (l.takeWhile isDg).length = 1 ∨ (l.takeWhile isDg).length = 2 then
      match l.dropWhile isDg with
      | [] => some [(val (l.takeWhile isDg) : Int)]
      | c :: r => if c = 58 then (clk f r).map (fun xs => (val (l.takeWhile isDg) : Int) :: xs) else none
    else none

theorem clk_inv {f : Nat} {l : List UInt8} {qs : List Int} (h : clk f l = some qs) : ∃ f', f = f' + 1 ∧ ((l.takeWhile isDg).length = 1 ∨ (l.takeWhile isDg).length = 2) ∧
    ((l.dropWhile isDg = [] ∧ qs = [(val (l.takeWhile isDg) : Int)]) ∨ ∃ r qs', l.dropWhile isDg = 58 :: r ∧ clk f' r = some qs' ∧ qs = (val (l.takeWhile isDg) : Int) :: qs') := by
  cases f with
  | zero => cases h
  | succ f =>
    refine ⟨f, rfl, ?_⟩
    rw [clk] at h
    split at h
    · rename_i hl
      refine ⟨hl, ?_⟩
      cases hd : l.dropWhile isDg with
      | nil =>
        rw [hd] at h
        simp at h
        exact .inl ⟨rfl, h.symm⟩
      | cons c r =>
        rw [hd] at h
        simp only at h
        split at h
        · rename_i hc
          subst hc
          cases hk : clk f r with
          | none => rw [hk] at h; cases h
          | some q =>
            rw [hk] at h
            simp at h
            exact .inr ⟨r, q, rfl, hk, h.symm⟩
        · cases h
    · cases h

theorem capF_small (l : List UInt8) (hl : l.length ≤ 2) (h : ∀ c ∈ l, isDg c = true) : capF 0 l = val l ∧ val l ≤ 99 := by
  match l, hl with
  | [], _ => exact ⟨rfl, by show (0 : Nat) ≤ 99; omega⟩
  | [a], _ =>
    have ha := dg_range (h a (by simp))
    have hda : dig a ≤ 9 := by unfold dig; omega
    refine ⟨?_, ?_⟩
    · show min (0 * 10 + dig a) 2147483648 = 0 * 10 + dig a
      omega
    · show 0 * 10 + dig a ≤ 99
      omega
  | [a, b], _ =>
    have ha := dg_range (h a (by simp))
    have hb := dg_range (h b (by simp))
    have hda : dig a ≤ 9 := by unfold dig; omega
    have hdb : dig b ≤ 9 := by unfold dig; omega
    refine ⟨?_, ?_⟩
    · show min (min (0 * 10 + dig a) 2147483648 * 10 + dig b) 2147483648 = (0 * 10 + dig a) * 10 + dig b
      omega
    · show (0 * 10 + dig a) * 10 + dig b ≤ 99
      omega

theorem dropW_key (l : List UInt8) : l.dropWhile isDg = l.drop (l.takeWhile isDg).length := by
  induction l with
  | nil => rfl
  | cons c l ih =>
    rw [List.dropWhile_cons, List.takeWhile_cons]
    split
    · rw [List.length_cons, List.drop_succ_cons]; exact ih
    · rfl

def atJ (b : Nat) (wr : World) : Nat := match wr.cell? ⟨b, 1, none⟩ with
  | some (.int _ x) => x.toNat
  | _ => 0
theorem atJ_eq {b i : Nat} {s : ByteArray} {w : World} (h : DAt w b s i) : atJ b w = i := by
  unfold atJ
  rw [h.at.2.1]
  simp

def ClP (b : Nat) (T : List Int) (w : World) (e : Ending) (w' : World) : Prop :=
  ∃ v, e = .returned (.tuple #[v, .bool true]) ∧ w'.ownsRow w.heap.size 2 1 v T.length (T.map iv) ∧ Below b w w'

def ClR (b : Nat) (s : ByteArray) (T : List Int) (w : World) (pv : Value) (wr : World) : Prop :=
  ∃ (f p : Nat) (ps qs : List Int), wr.ownsRow w.heap.size 2 1 pv ps.length (ps.map iv) ∧ clk f (s.data.toList.drop p) = some qs ∧ ps ++ qs = T ∧ p ≤ s.size ∧ ps.length ≤ p ∧ DAt wr b s p ∧ Below b w wr ∧ w.heap.size ≤ wr.heap.size

set_option maxHeartbeats 2000000 in
theorem clock44 (b : Nat) (s : ByteArray) (i : Nat) (hi : i ≤ s.size) (f : Nat) (T : List Int) (hT : clk f (s.data.toList.drop i) = some T) (w : World) (hs : s.size ≤ 1048576) (h : DAt w b s i) :
    Calls Try.prog 44 #[.pointer (some ⟨b, 0, none⟩)] w (ClP b T w) := by
  have hbB := h.lt
  have HD := hideQ h
  have HT := hideQ hT
  clear h hT
  go_enter Try.func44, Try.ntmps44
  go_wp2
  go_loopw [4, 5, 6] (fun pv _ _ wr => ClR b s T w pv wr) (fun _ _ _ wr => s.size - atJ b wr)
  case atStart => exact ⟨f, i, [], T, World.ownsRow_nil _ _ _ _, HT.out, rfl, hi, by simp, HD.out, Below.refl _ _, Nat.le_refl _⟩
  case round =>
    clear HD HT
    obtain ⟨f, p, ps, qs, hown, hclk, hqs, hp, hpl, hD, hB, hsz⟩ := hrel
    obtain ⟨f, rfl, hlen, hrest⟩ := clk_inv hclk
    have HM := hideQ (atJ_eq hD)
    have HDG := hideQ (digits_anyJ b s p hp _ hs hD)
    have hall := tw_all (s.data.toList.drop p)
    have hkey := dropW_key (s.data.toList.drop p)
    have hdl := (List.takeWhile_sublist (p := isDg) (l := s.data.toList.drop p)).length_le
    rw [List.length_drop, size_toList] at hdl
    obtain ⟨ds, hds⟩ : ∃ ds, (s.data.toList.drop p).takeWhile isDg = ds := ⟨_, rfl⟩
    rw [hds] at HDG hall hdl hrest hlen hkey
    obtain ⟨hcap, hval⟩ := capF_small ds (by omega) hall
    rw [hcap] at HDG
    rw [hkey, List.drop_drop] at hrest
    obtain ⟨m, hm⟩ : ∃ m, ds.length = m := ⟨_, rfl⟩
    obtain ⟨n, hn⟩ : ∃ n, val ds = n := ⟨_, rfl⟩
    rw [hm] at HDG hlen hrest hdl
    rw [hn] at HDG hval hrest
    have HO := hideQ hown
    have HR := hideQ hrest
    have HB := hideQ hB
    have HQ := hideQ hqs
    clear hcap hm hn hall hds hkey hclk hown hrest hB hqs hD
    have hm1 : 1 ≤ m := by omega
    obtain ⟨q, hq⟩ : ∃ q, p + m = q := ⟨_, rfl⟩
    rw [hq] at HDG HR
    have hqs1 : q ≤ s.size := by omega
    have hpq : p < q := by omega
    clear hq
    have HT2 : Hid ((((m : Int) != 1) && ((m : Int) != 2)) = false) := by rcases hlen with rfl | rfl <;> exact rfl
    go_wp2_with fail
    refine HDG.out.mono ?_
    rintro e w2 ⟨rfl, hD2, hJ2⟩
    have HD2 := hideQ hD2
    have HB2 := hideQ (HB.out.trans hJ2.below)
    have HO2 := hideQ (own_just hbB hJ2 HO.out)
    have hsz2 : w.heap.size ≤ w2.heap.size := by rw [hJ2.size]; exact hsz
    clear hD2 hJ2 HDG HO HB
    have hc1 := alloc_cell w2 n
    have hc2 : w.heap.size ≤ (w2.alloc (.cells #[.int .i64 (n : Int)] 2)).heap.size := by rw [alloc_size]; omega
    have hbd : ps.length ≤ 1099511627776 := by omega
    have HBA := hideQ (HB2.out.alloc (o := .cells #[.int .i64 (n : Int)] 2) (by omega))
    have HDA := hideQ (HD2.out.alloc (.cells #[.int .i64 (n : Int)] 2))
    have HOA := hideQ (HO2.out.alloc (.cells #[.int .i64 (n : Int)] 2))
    have HC1 := hideQ hc1
    have HC2 := hideQ hc2
    clear hc1 hc2
    rcases hlen with rfl | rfl
    all_goals
      go_wp2_with (first | (at_builtin; refine wp_appC w _ rfl _ _ rfl b w.heap.size s _ _ ps (n : Int) ⟨w2.heap.size, 0, none⟩ rfl rfl HC1.out HOA.out HDA.out hbB HBA.out HC2.out hbd ?_) | fail)
      intro v' w3 hO3 hD3 hB3 hs3
      have HO3 : Hid (w3.ownsRow w.heap.size 2 1 v' (ps ++ [(n : Int)]).length ((ps ++ [(n : Int)]).map iv)) := by
        show w3.ownsRow w.heap.size 2 1 v' (ps ++ [(n : Int)]).length ((ps ++ [(n : Int)]).map iv)
        simpa using hO3
      have HD3 := hideQ hD3
      have HB3 := hideQ hB3
      clear hO3 hD3 hB3 HO2 HD2 HB2 HBA HDA HOA HC1 HC2
      go_wp2_with fail
      rcases HR.out with ⟨hend, hqs⟩ | ⟨r, qs', hr, hk, hqs⟩
      · obtain rfl : q = s.size := by
          have := congrArg List.length hend
          rw [List.length_drop, size_toList, List.length_nil] at this
          omega
        have HTT : Hid (ps ++ [(n : Int)] = T) := by rw [← HQ.out, hqs]; exact rfl
        clear hend hqs HR
        refine (next_endJ b s w3 hs HD3.out).mono ?_
        rintro e w4 ⟨rfl, hD4, hJ4⟩
        have HB4 := hideQ (HB3.out.trans hJ4.below)
        have HO4 := hideQ (own_just hbB hJ4 HO3.out)
        clear hD4 hJ4 HB3 HO3 HD3
        go_wp2
        go_ret2
        refine ⟨v', rfl, ?_, HB4.out⟩
        rw [← HTT.out]
        exact HO4.out
      · have hlq : q < s.size := by
          apply Nat.lt_of_not_le
          intro hge
          rw [List.drop_of_length_le (by rw [size_toList]; omega)] at hr
          cases hr
        rw [drop_at s q hlq] at hr
        have h58 : (s[q]'hlq).toNat = 58 := by
          have := (List.cons.inj hr).1
          rw [this]
          rfl
        have hr2 := (List.cons.inj hr).2
        have HK : Hid (clk f (s.data.toList.drop (q + 1)) = some qs') := by rw [hr2]; exact hk
        have HTT : Hid ((ps ++ [(n : Int)]) ++ qs' = T) := by
          show (ps ++ [(n : Int)]) ++ qs' = T
          rw [← HQ.out, hqs]
          simp
        have HX := hideQ (next_moreJ b s q hlq w3 hs HD3.out)
        rw [h58] at HX
        clear hr hr2 hk hqs HR h58
        refine HX.out.mono ?_
        rintro e w4 ⟨rfl, hD4, hJ4⟩
        have HD4 := hideQ hD4
        have HB4 := hideQ (HB3.out.trans hJ4.below)
        have HO4 := hideQ (own_just hbB hJ4 HO3.out)
        have hs4 : w.heap.size ≤ w4.heap.size := by rw [hJ4.size]; exact hs3
        clear hD4 hJ4 HB3 HO3 HD3 HX
        go_wp2
        go_roundw
        case rel => exact ⟨f, q + 1, ps ++ [(n : Int)], qs', HO4.out, HK.out, HTT.out, hlq, by simp; omega, HD4.out, HB4.out, hs4⟩
        case measure =>
          rw [atJ_eq HD4.out, HM.out]
          omega

end Go.Proofs.Qxb6600554a
