/-
  SEAT b6600554a: WALKS 3: 'blanks' (48), 'number' (42).
-/
import Derived.Test.Qxb6600554aWTwo
import Derived.Test.Qxb6600554aCr
namespace Go.Proofs.Qxb6600554a
open Go.RowKit
set_option linter.unusedVariables false

theorem w32 (c : UInt8) : IntKind.i32.wrap (c.toNat : Int) = c.toNat := by
  have := c.toNat_lt
  rw [IntKind.wrap_i32]
  omega
theorem w32' (c : UInt8) : wrap32 (c.toNat : Int) = c.toNat := by
  have := c.toNat_lt
  unfold wrap32
  omega

def startB : List UInt8 → Bool
  | [] => false
  | c :: _ => isSt c

set_option maxRecDepth 100000 in
set_option maxHeartbeats 2000000 in
theorem blanks_any (b : Nat) (s : ByteArray) (i : Nat) (hi : i ≤ s.size) (w : World) (hs : s.size ≤ 1048576) (h : DAt w b s i) :
    Calls Try.prog 48 #[.pointer (some ⟨b, 0, none⟩)] w (RdP b s (.bool (startB (s.data.toList.drop i))) (s.size - (skipB (s.data.toList.drop i)).length) w) := by
  obtain ⟨c0, c1, cf⟩ := h.at
  have HD := hideQ h
  clear h
  by_cases hlt : i < s.size
  · have hne : ((i : Int) == (s.size : Int)) = false := by simp; omega
    have hw1 := w32 (s[i]'hlt)
    have hw2 := w32' (s[i]'hlt)
    rw [drop_at s i hlt]
    cases hst : isSt (s[i]'hlt) with
    | false =>
      go_enter Try.func48, Try.ntmps48
      go_wp2
      go_quiet ((go_at_call 52; exact Calls.quiet_of (cr_st (s[i]'hlt) _)))
      go_wp2
      go_ret
      refine ⟨by show Ending.returned (Value.bool false) = _; rw [startB, hst], ?_, below_drewN (Below.refl _ _) _⟩
      rw [skipB_cons, if_neg (by rw [hst]; simp), ← drop_at s i hlt, List.length_drop, size_toList, show s.size - (s.size - i) = i by omega]
      exact HD.out.drewN _
    | true =>
      obtain ⟨r, hr⟩ : ∃ r, (s.data.toList.drop i).dropWhile isSp = r := ⟨_, rfl⟩
      have hsk : skipB (s[i]'hlt :: s.data.toList.drop (i + 1)) = r := by
        rw [skipB_cons, if_pos hst, ← hr, drop_at s i hlt, List.dropWhile_cons, if_pos (st_sp hst)]
      rw [hsk]
      have hsb : startB (s[i]'hlt :: s.data.toList.drop (i + 1)) = true := hst
      rw [hsb]
      have HR := hideQ hr
      clear hr hsk hsb
      go_enter Try.func48, Try.ntmps48
      go_wp2
      go_quiet ((go_at_call 52; exact Calls.quiet_of (cr_st (s[i]'hlt) _)))
      go_wp2
      go_loopw [27] (fun _ wr => ∃ p : Nat, p ≤ s.size ∧ (s.data.toList.drop p).dropWhile isSp = r ∧ DAt wr b s p ∧ Below b w wr) (fun _ wr => s.size - (match wr.cell? ⟨b, 1, none⟩ with | some (.int _ x) => x.toNat | _ => 0))
      case atStart => exact ⟨i, hi, HR.out, HD.out.drewN _, below_drewN (Below.refl _ _) _⟩
      case round =>
        obtain ⟨p, hp, h1, h2, h3⟩ := hrel
        obtain ⟨e0, e1, ef⟩ := h2.at
        have H1 := hideQ h1
        have H2 := hideQ h2
        have H3 := hideQ h3
        have E1 := hideQ e1
        clear h1 h2 h3 c0 c1 cf hw1 hw2
        by_cases hlp : p < s.size
        · have hpp : (p : Int) < (s.size : Int) := by omega
          have hd1 : decide ((p : Int) < (s.size : Int)) = true := decide_eq_true hpp
          have hw1 := w32 (s[p]'hlp)
          have hw2 := w32' (s[p]'hlp)
          cases hsp : isSp (s[p]'hlp) with
          | true =>
            go_wp2
            go_quiet ((go_at_call 52; exact Calls.quiet_of (cr_sp (s[p]'hlp) _)))
            go_wp2
            have HD9 : Hid (DAt ((wr.drewN nq).setCell ⟨b, 1, none⟩ (.int .i64 ((p : Int) + 1))) b s (p + 1)) := (H2.out.drewN nq).set (p + 1)
            have HB9 : Hid (Below b w ((wr.drewN nq).setCell ⟨b, 1, none⟩ (.int .i64 ((p : Int) + 1)))) := (below_drewN H3.out nq).setCell (by exact Nat.le_refl _) _
            go_roundw
            case rel =>
              refine ⟨p + 1, hlp, ?_, HD9.out, HB9.out⟩
              rw [← H1.out, drop_at s p hlp, List.dropWhile_cons, if_pos hsp]
            case measure =>
              have a1 : ((wr.drewN nq).setCell ⟨b, 1, none⟩ (.int .i64 ((p : Int) + 1))).cell? ⟨b, 1, none⟩ = some (.int .i64 ((p + 1 : Nat) : Int)) := HD9.out.at.2.1
              rw [a1, E1.out]
              simp only [Int.toNat_natCast]
              omega
          | false =>
            go_wp2
            go_quiet ((go_at_call 52; exact Calls.quiet_of (cr_sp (s[p]'hlp) _)))
            go_wp2
            go_ret
            have hr : r = s.data.toList.drop p := by rw [← H1.out, drop_at s p hlp, List.dropWhile_cons, if_neg (by rw [hsp]; simp)]
            refine ⟨rfl, ?_, below_drewN H3.out _⟩
            rw [hr, List.length_drop, size_toList, show s.size - (s.size - p) = p by omega]
            exact H2.out.drewN _
        · have hpe : ¬ (p : Int) < (s.size : Int) := by omega
          have hd1 : decide ((p : Int) < (s.size : Int)) = false := decide_eq_false hpe
          go_wp2
          go_quiet (fail)
          go_wp2
          go_ret
          have hr : r = s.data.toList.drop p := by rw [← H1.out, List.drop_of_length_le (by rw [size_toList]; omega)]; rfl
          refine ⟨rfl, ?_, below_drewN H3.out _⟩
          rw [hr, List.length_drop, size_toList, show s.size - (s.size - p) = p by omega]
          exact H2.out.drewN _
  · have hie : i = s.size := by omega
    subst hie
    have hd : s.data.toList.drop s.size = [] := List.drop_of_length_le (by rw [size_toList]; omega)
    rw [hd]
    go_enter Try.func48, Try.ntmps48
    go_wp2
    go_quiet (fail)
    go_wp2
    go_ret
    exact ⟨rfl, HD.out.drewN _, below_drewN (Below.refl _ _) _⟩

theorem capF_val : ∀ (l : List UInt8) (n m : Nat), m = min n 2147483648 → capF m l = min (valF n l) 2147483648
  | [], n, m, h => h
  | c :: l, n, m, h => by
    show capF (min (m * 10 + dig c) 2147483648) l = min (valF (n * 10 + dig c) l) 2147483648
    exact capF_val l _ _ (by omega)

def NuP (b : Nat) (s : ByteArray) (l : List UInt8) (w : World) (e : Ending) (w' : World) : Prop :=
  (num l = none ∧ e = .returned (.tuple #[.int .i64 0, .bool false]) ∧ (∃ j, j ≤ s.size ∧ DAt w' b s j) ∧ Below b w w') ∨
  ∃ n r, num l = some (n, r) ∧ e = .returned (.tuple #[.int .i64 n, .bool true]) ∧ r.length ≤ s.size ∧ DAt w' b s (s.size - r.length) ∧ s.data.toList.drop (s.size - r.length) = r ∧ Below b w w'

/-- Behind the sign: the digits, and the answer. -/
theorem drop_skip (s : ByteArray) (i : Nat) (hi : i ≤ s.size) : ∃ j, j = s.size - (skipB (s.data.toList.drop i)).length ∧ i ≤ j ∧ j ≤ s.size ∧ s.data.toList.drop j = skipB (s.data.toList.drop i) := by
  have hsuf : ∃ pre, s.data.toList.drop i = pre ++ skipB (s.data.toList.drop i) := by
    cases hl : s.data.toList.drop i with
    | nil => exact ⟨[], rfl⟩
    | cons c l =>
      rw [skipB_cons]
      split
      · refine ⟨c :: l.takeWhile isSp, ?_⟩
        rw [List.cons_append, List.takeWhile_append_dropWhile]
      · exact ⟨[], rfl⟩
  obtain ⟨pre, hpre⟩ := hsuf
  have hlen : pre.length + (skipB (s.data.toList.drop i)).length = s.size - i := by
    rw [← size_toList s, ← List.length_drop, hpre, List.length_append, ← hpre]
  refine ⟨_, rfl, by omega, by omega, ?_⟩
  have e : s.size - (skipB (s.data.toList.drop i)).length = i + pre.length := by omega
  rw [e, ← List.drop_drop, hpre, List.drop_left, ← hpre]

theorem byte_eq {c : UInt8} (h : ((c.toNat : Int) == 45) = true) : c = 45 := by
  have h1 : (c.toNat : Int) = 45 := by simpa using h
  apply UInt8.toNat_inj.1
  show c.toNat = 45
  omega
theorem byte_ne {c : UInt8} (h : ((c.toNat : Int) == 45) = false) : ¬ c = 45 := by
  intro e
  subst e
  simp at h

theorem dropW_drop (p : UInt8 → Bool) : ∀ l : List UInt8, l.dropWhile p = l.drop (l.takeWhile p).length
  | [] => rfl
  | c :: l => by
    rw [List.dropWhile_cons, List.takeWhile_cons]
    split
    · rw [List.length_cons, List.drop_succ_cons]; exact dropW_drop p l
    · rfl

theorem num_eq (s : ByteArray) (i q : Nat) (hq : q ≤ s.size) (ng : Bool) (h : sign (skipB (s.data.toList.drop i)) = (ng, s.data.toList.drop q)) :
    (((s.data.toList.drop q).takeWhile isDg = [] ∨ 2147483647 < val ((s.data.toList.drop q).takeWhile isDg)) → num (s.data.toList.drop i) = none) ∧
    (¬ ((s.data.toList.drop q).takeWhile isDg = [] ∨ 2147483647 < val ((s.data.toList.drop q).takeWhile isDg)) → num (s.data.toList.drop i) = some ((if ng = true then -(val ((s.data.toList.drop q).takeWhile isDg) : Int) else (val ((s.data.toList.drop q).takeWhile isDg) : Int)), s.data.toList.drop (q + ((s.data.toList.drop q).takeWhile isDg).length))) := by
  unfold num numS
  rw [h]
  refine ⟨fun hc => by simp only; rw [if_pos hc], fun hc => ?_⟩
  simp only
  rw [if_neg hc, dropW_drop, List.drop_drop]

set_option maxRecDepth 100000 in
set_option maxHeartbeats 2000000 in
theorem number_any (b : Nat) (s : ByteArray) (i : Nat) (hi : i ≤ s.size) (w : World) (hs : s.size ≤ 1048576) (h : DAt w b s i) :
    Calls Try.prog 42 #[.pointer (some ⟨b, 0, none⟩)] w (NuP b s (s.data.toList.drop i) w) := by
  obtain ⟨j, hj, hij, hjs, hdj⟩ := drop_skip s i hi
  have HB := hideQ (blanks_any b s i hi w hs h)
  rw [← hj] at HB
  have HJ := hideQ hdj
  clear hj hdj h
  go_enter Try.func42, Try.ntmps42
  go_wp2_with fail
  refine HB.out.mono ?_
  rintro e w1 ⟨rfl, hD1, hB1⟩
  obtain ⟨e0, e1, ef⟩ := hD1.at
  have H1 := hideQ hD1
  have H2 := hideQ hB1
  clear hD1 hB1 HB
  by_cases hlt : j < s.size
  · have hpp : (j : Int) < (s.size : Int) := by omega
    have hd1 : decide ((j : Int) < (s.size : Int)) = true := decide_eq_true hpp
    cases hm : (((s[j]'hlt).toNat : Int) == 45) with
    | true =>
      go_wp2
      go_quiet (fail)
      go_wp2_with fail
      have HDQ : Hid (DAt ((w1.drewN nq).setCell ⟨b, 1, none⟩ (.int .i64 ((j : Int) + 1))) b s (j + 1)) := (H1.out.drewN nq).set (j + 1)
      have HBQ : Hid (Below b w ((w1.drewN nq).setCell ⟨b, 1, none⟩ (.int .i64 ((j : Int) + 1)))) := (below_drewN H2.out nq).setCell (by exact Nat.le_refl _) _
      have HSG := hideQ (show sign (skipB (s.data.toList.drop i)) = (true, s.data.toList.drop (j + 1)) by
        rw [← HJ.out, drop_at s j hlt, sign_cons, if_pos (byte_eq hm)])
      refine (digits_any b s (j + 1) (by omega) _ hs HDQ.out).mono ?_
      rintro e w3 ⟨rfl, hD3, hB3⟩
      have HNE := hideQ (num_eq s i (j + 1) (by omega) true HSG.out)
      obtain ⟨ds, hds⟩ : ∃ ds, (s.data.toList.drop (j + 1)).takeWhile isDg = ds := ⟨_, rfl⟩
      rw [hds] at HNE hD3 ⊢
      have hdl : ds.length ≤ s.size - (j + 1) := by
        rw [← hds]
        have := (List.takeWhile_sublist (p := isDg) (l := s.data.toList.drop (j + 1))).length_le
        rw [List.length_drop, size_toList] at this
        exact this
      obtain ⟨n, hn⟩ : ∃ n, n = capF 0 ds := ⟨_, rfl⟩
      obtain ⟨m, hm⟩ : ∃ m, m = ds.length := ⟨_, rfl⟩
      have hncap : n ≤ 2147483648 := by rw [hn]; exact capF_le ds 0 (by omega)
      have hnv : n = min (val ds) 2147483648 := by rw [hn]; exact capF_val ds 0 0 (by omega)
      rw [← hn, ← hm]
      rw [← hm] at hD3 hdl
      have HD3 := hideQ hD3
      have HB3 := hideQ (HBQ.out.trans hB3)
      have HNV := hideQ hnv
      have HM := hideQ hm
      clear hD3 hB3 hnv hn hm hds
      by_cases g0 : m = 0
      · subst g0
        go_wp2
        go_ret2
        exact .inl ⟨HNE.out.1 (.inl (List.eq_nil_of_length_eq_zero HM.out.symm)), rfl, ⟨_, by omega, HD3.out⟩, HB3.out⟩
      have g0' : ((m : Int) == 0) = false := by simp; omega
      by_cases g1 : 2147483647 < (n : Int)
      · go_wp2
        go_ret2
        exact .inl ⟨HNE.out.1 (.inr (by have := HNV.out; omega)), rfl, ⟨_, by omega, HD3.out⟩, HB3.out⟩
      go_wp2
      go_ret2
      refine .inr ⟨_, _, HNE.out.2 (fun h => by rcases h with h | h; (· rw [h] at HM; exact g0 HM.out); (· have := HNV.out; omega)), ?_, ?_, ?_, ?_, HB3.out⟩
      · have hv : n = val ds := by have := HNV.out; omega
        rw [hv]
        rfl
      · rw [List.length_drop, size_toList]; omega
      · rw [List.length_drop, size_toList, ← HM.out, show s.size - (s.size - (j + 1 + m)) = j + 1 + m by omega]
        exact HD3.out
      · rw [List.length_drop, size_toList, ← HM.out, show s.size - (s.size - (j + 1 + m)) = j + 1 + m by omega]
    | false =>
      go_wp2
      go_quiet (fail)
      go_wp2_with fail
      have HDQ : Hid (DAt (w1.drewN nq) b s j) := H1.out.drewN nq
      have HBQ : Hid (Below b w (w1.drewN nq)) := below_drewN H2.out nq
      have HSG := hideQ (show sign (skipB (s.data.toList.drop i)) = (false, s.data.toList.drop j) by
        rw [← HJ.out, drop_at s j hlt, sign_cons, if_neg (byte_ne hm)])
      refine (digits_any b s j (by omega) _ hs HDQ.out).mono ?_
      rintro e w3 ⟨rfl, hD3, hB3⟩
      have HNE := hideQ (num_eq s i j (by omega) false HSG.out)
      obtain ⟨ds, hds⟩ : ∃ ds, (s.data.toList.drop (j)).takeWhile isDg = ds := ⟨_, rfl⟩
      rw [hds] at HNE hD3 ⊢
      have hdl : ds.length ≤ s.size - (j) := by
        rw [← hds]
        have := (List.takeWhile_sublist (p := isDg) (l := s.data.toList.drop (j))).length_le
        rw [List.length_drop, size_toList] at this
        exact this
      obtain ⟨n, hn⟩ : ∃ n, n = capF 0 ds := ⟨_, rfl⟩
      obtain ⟨m, hm⟩ : ∃ m, m = ds.length := ⟨_, rfl⟩
      have hncap : n ≤ 2147483648 := by rw [hn]; exact capF_le ds 0 (by omega)
      have hnv : n = min (val ds) 2147483648 := by rw [hn]; exact capF_val ds 0 0 (by omega)
      rw [← hn, ← hm]
      rw [← hm] at hD3 hdl
      have HD3 := hideQ hD3
      have HB3 := hideQ (HBQ.out.trans hB3)
      have HNV := hideQ hnv
      have HM := hideQ hm
      clear hD3 hB3 hnv hn hm hds
      by_cases g0 : m = 0
      · subst g0
        go_wp2
        go_ret2
        exact .inl ⟨HNE.out.1 (.inl (List.eq_nil_of_length_eq_zero HM.out.symm)), rfl, ⟨_, by omega, HD3.out⟩, HB3.out⟩
      have g0' : ((m : Int) == 0) = false := by simp; omega
      by_cases g1 : 2147483647 < (n : Int)
      · go_wp2
        go_ret2
        exact .inl ⟨HNE.out.1 (.inr (by have := HNV.out; omega)), rfl, ⟨_, by omega, HD3.out⟩, HB3.out⟩
      go_wp2
      go_ret2
      refine .inr ⟨_, _, HNE.out.2 (fun h => by rcases h with h | h; (· rw [h] at HM; exact g0 HM.out); (· have := HNV.out; omega)), ?_, ?_, ?_, ?_, HB3.out⟩
      · have hv : n = val ds := by have := HNV.out; omega
        rw [hv]
        rfl
      · rw [List.length_drop, size_toList]; omega
      · rw [List.length_drop, size_toList, ← HM.out, show s.size - (s.size - (j + m)) = j + m by omega]
        exact HD3.out
      · rw [List.length_drop, size_toList, ← HM.out, show s.size - (s.size - (j + m)) = j + m by omega]
  · have hpe : ¬ (j : Int) < (s.size : Int) := by omega
    have hd1 : decide ((j : Int) < (s.size : Int)) = false := decide_eq_false hpe
    go_wp2
    go_quiet (fail)
    go_wp2_with fail
    have HDQ : Hid (DAt (w1.drewN nq) b s j) := H1.out.drewN nq
    have HBQ : Hid (Below b w (w1.drewN nq)) := below_drewN H2.out nq
    have HSG : Hid (sign (skipB (s.data.toList.drop i)) = (false, s.data.toList.drop j)) := by
      rw [← HJ.out, List.drop_of_length_le (by rw [size_toList]; omega)]; rfl
    refine (digits_any b s j (by omega) _ hs HDQ.out).mono ?_
    rintro e w3 ⟨rfl, hD3, hB3⟩
    have HNE := hideQ (num_eq s i j (by omega) false HSG.out)
    obtain ⟨ds, hds⟩ : ∃ ds, (s.data.toList.drop (j)).takeWhile isDg = ds := ⟨_, rfl⟩
    rw [hds] at HNE hD3 ⊢
    have hdl : ds.length ≤ s.size - (j) := by
      rw [← hds]
      have := (List.takeWhile_sublist (p := isDg) (l := s.data.toList.drop (j))).length_le
      rw [List.length_drop, size_toList] at this
      exact this
    obtain ⟨n, hn⟩ : ∃ n, n = capF 0 ds := ⟨_, rfl⟩
    obtain ⟨m, hm⟩ : ∃ m, m = ds.length := ⟨_, rfl⟩
    have hncap : n ≤ 2147483648 := by rw [hn]; exact capF_le ds 0 (by omega)
    have hnv : n = min (val ds) 2147483648 := by rw [hn]; exact capF_val ds 0 0 (by omega)
    rw [← hn, ← hm]
    rw [← hm] at hD3 hdl
    have HD3 := hideQ hD3
    have HB3 := hideQ (HBQ.out.trans hB3)
    have HNV := hideQ hnv
    have HM := hideQ hm
    clear hD3 hB3 hnv hn hm hds
    by_cases g0 : m = 0
    · subst g0
      go_wp2
      go_ret2
      exact .inl ⟨HNE.out.1 (.inl (List.eq_nil_of_length_eq_zero HM.out.symm)), rfl, ⟨_, by omega, HD3.out⟩, HB3.out⟩
    exfalso
    omega

end Go.Proofs.Qxb6600554a
