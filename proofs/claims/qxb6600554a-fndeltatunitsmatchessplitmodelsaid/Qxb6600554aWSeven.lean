/-
  SEAT b6600554a: WALKS 7: the model: 'term' (38), the chain of units (18).
-/
import Derived.Test.Qxb6600554aWSix
namespace Go.Proofs.Qxb6600554a
open Go.RowKit
set_option linter.unusedVariables false

theorem ext_list (s : ByteArray) (a b : Nat) : (s.extract a b).data.toList = (s.data.toList.drop a).take (b - a) := by
  rw [ByteArray.data_extract, Array.toList_extract, List.extract_eq_take_drop]

theorem ext_size (s : ByteArray) (a b : Nat) (h : a ≤ b) (hb : b ≤ s.size) : (s.extract a b).size = b - a := by
  rw [← size_toList, ext_list, List.length_take, List.length_drop, size_toList]
  omega

theorem skipB_suf (l : List UInt8) : l.drop (l.length - (skipB l).length) = skipB l := by
  have hsuf : ∃ pre, l = pre ++ skipB l := by
    cases l with
    | nil => exact ⟨[], rfl⟩
    | cons c l =>
      rw [skipB_cons]
      split
      · refine ⟨c :: l.takeWhile isSp, ?_⟩
        rw [List.cons_append, List.takeWhile_append_dropWhile]
      · exact ⟨[], rfl⟩
  obtain ⟨pre, hpre⟩ := hsuf
  have hl : l.length - (skipB l).length = pre.length := by
    have := congrArg List.length hpre
    rw [List.length_append] at this
    omega
  rw [hl]
  conv => lhs; rw [hpre]
  rw [List.drop_left]

def TmP (l : List UInt8) (w : World) (e : Ending) (w' : World) : Prop :=
  w' = w ∧ ((term l = none ∧ e = .returned (.tuple #[.int .i64 0, .bool false])) ∨ ∃ n, term l = some n ∧ -2147483647 ≤ n ∧ n ≤ 2147483647 ∧ e = .returned (.tuple #[.int .i64 n, .bool true]))

theorem numS_range {l r : List UInt8} {n : Int} (h : numS l = some (n, r)) : -2147483647 ≤ n ∧ n ≤ 2147483647 := by
  unfold numS at h
  simp only at h
  split at h
  · cases h
  · rename_i hc
    have hv : ¬ 2147483647 < val ((sign l).2.takeWhile isDg) := fun e => hc (.inr e)
    cases h
    split <;> omega

set_option maxHeartbeats 1000000 in
theorem term38 (s : ByteArray) (hs : s.size ≤ 1048576) (w : World) : Calls Try.prog 38 #[.string s] w (TmP s.data.toList w) := by
  have H33 := hideQ (skip33 s 0 (by omega) hs w)
  rw [List.drop_zero] at H33
  obtain ⟨j, hj⟩ : ∃ j, s.size - (skipB s.data.toList).length = j := ⟨_, rfl⟩
  have hjs : j ≤ s.size := by omega
  have hdj : s.data.toList.drop j = skipB s.data.toList := by
    rw [← hj, ← size_toList, skipB_suf]
  rw [hj] at H33
  have H32 := hideQ (signed32 s j hjs hs w)
  rw [hdj] at H32
  clear hj hdj
  go_enter Try.func38, Try.ntmps38
  go_wp2_with (go_at_call 33; refine H33.out.mono ?_; rintro e w' ⟨rfl, rfl⟩)
  refine H32.out.mono ?_
  rintro e w2 ⟨hw, ⟨hn, j2, rfl⟩ | ⟨n, r, hn, hr, rfl⟩⟩
  · subst hw
    have HF : Hid (term s.data.toList = none) := by
      unfold term num
      rw [hn]
      exact rfl
    clear hn H32 H33
    go_wp2
    go_ret2
    exact ⟨rfl, .inl ⟨HF.out, rfl⟩⟩
  · subst hw
    obtain ⟨g1, g2⟩ := numS_range hn
    by_cases hr0 : r = []
    · subst hr0
      have HF : Hid (term s.data.toList = some n) := by
        unfold term num
        rw [hn]
        exact rfl
      clear hn H32 H33
      go_wp2
      go_ret2
      exact ⟨rfl, .inr ⟨n, HF.out, g1, g2, rfl⟩⟩
    · have HF : Hid (term s.data.toList = none) := by
        unfold term num
        rw [hn]
        cases r with
        | nil => exact absurd rfl hr0
        | cons y r => exact rfl
      have hrl : r.length ≠ 0 := fun e => hr0 (List.eq_nil_of_length_eq_zero e)
      obtain ⟨m, hm⟩ : ∃ m, s.size - r.length = m := ⟨_, rfl⟩
      rw [hm]
      have hmm : ((m : Int) == (s.size : Int)) = false := by simp; omega
      have hmn : ((m : Int) != (s.size : Int)) = true := by simp; omega
      clear hn H32 H33 hr0 hrl hm
      go_wp2
      go_ret2
      exact ⟨rfl, .inl ⟨HF.out, rfl⟩⟩

theorem rank_no {c : UInt8} (h : letter c = false) : rank c = -1 := by
  unfold letter at h
  simp at h
  obtain ⟨⟨⟨h1, h2⟩, h3⟩, h4⟩ := h
  unfold rank
  rw [if_neg h1, if_neg h2, if_neg h3, if_neg h4]

theorem rank_yes {c : UInt8} (h : letter c = true) : (rank c = 0 ∧ rk c = none) ∨ ∃ j, j < 3 ∧ rank c = ((j + 1 : Nat) : Int) ∧ rk c = some j := by
  unfold letter at h
  simp at h
  rcases h with ((rfl | rfl) | rfl) | rfl
  · exact .inl ⟨rfl, rfl⟩
  · exact .inr ⟨0, by omega, rfl, rfl⟩
  · exact .inr ⟨1, by omega, rfl, rfl⟩
  · exact .inr ⟨2, by omega, rfl, rfl⟩

/-- The piece from st up to p. -/
def pc (s : ByteArray) (st p : Nat) : List UInt8 := (s.data.toList.drop st).take (p - st)

theorem pc_split (s : ByteArray) (st p : Nat) (h : st ≤ p) (hp : p < s.size) : s.data.toList.drop st = pc s st p ++ s[p]'hp :: s.data.toList.drop (p + 1) := by
  unfold pc
  rw [← drop_at s p hp]
  have : s.data.toList.drop p = (s.data.toList.drop st).drop (p - st) := by rw [List.drop_drop]; congr 1; omega
  rw [this, List.take_append_drop]
theorem pc_snoc (s : ByteArray) (st p : Nat) (h : st ≤ p) (hp : p < s.size) : pc s st (p + 1) = pc s st p ++ [s[p]'hp] := by
  have h1 := pc_split s st p h hp
  have h2 : (pc s st p).length = p - st := by
    unfold pc
    rw [List.length_take, List.length_drop, size_toList]
    omega
  conv => lhs; unfold pc
  rw [h1, show p + 1 - st = (pc s st p).length + 1 by omega, List.take_append]
  rw [List.take_of_length_le (by omega), Nat.add_sub_cancel_left]
  rfl
theorem pc_end (s : ByteArray) (st : Nat) : pc s st s.size = s.data.toList.drop st := by
  unfold pc
  rw [List.take_of_length_le (by rw [List.length_drop, size_toList]; omega)]
theorem pc_nil (s : ByteArray) (st : Nat) : pc s st st = [] := by
  unfold pc
  rw [Nat.sub_self]
  rfl

def MdR (s : ByteArray) (R : Int × Bool) (w : World) (tv av lv sv iv : Value) (wr : World) : Prop :=
  ∃ (f k st p : Nat) (last : UInt8) (total : Int), tv = .int .i64 total ∧ av = .int .i64 ((k + 1 : Nat) : Int) ∧ lv = .int .u8 last.toNat ∧ sv = .int .i64 st ∧ iv = .int .i64 p ∧ k ≤ 3 ∧ st ≤ p ∧ p ≤ s.size ∧ s.size - st < f ∧ (∀ x ∈ pc s st p, letter x = false) ∧ U wrap64 f k last total (s.data.toList.drop st) = R ∧ wr = w

theorem last_ne' (last : UInt8) : ((last.toNat : Int) != 115) = (last != 115) := by
  by_cases h : last = 115
  · subst h; rfl
  · have h1 : (last != 115) = true := by simpa using h
    rw [h1]
    have := b_ne' 115 (by omega) h
    have h2 : ¬ (last.toNat : Int) = 115 := by simpa using this
    simpa using h2

theorem wrap_in' (a x : Int) : wrap64 (a + wrap64 x) = wrap64 (a + x) := by
  unfold wrap64
  omega

set_option maxRecDepth 100000 in
set_option maxHeartbeats 2000000 in
theorem model18 (s : ByteArray) (i : Nat) (hi : i ≤ s.size) (k : Nat) (hk : k ≤ 3) (total : Int) (last : UInt8) (hs : s.size ≤ 1048576) (w : World) :
    Calls Try.prog 18 #[.string s, .int .i64 i, .int .i64 total, .int .i64 ((k + 1 : Nat) : Int), .int .u8 last.toNat] w
      fun e w' => e = .returned (.tuple #[.int .i64 (U wrap64 (s.size + 1) k last total (s.data.toList.drop i)).1, .bool (U wrap64 (s.size + 1) k last total (s.data.toList.drop i)).2]) ∧ w' = w := by
  obtain ⟨R, hR⟩ : ∃ R, U wrap64 (s.size + 1) k last total (s.data.toList.drop i) = R := ⟨_, rfl⟩
  rw [hR]
  have HR := hideQ hR
  clear hR
  go_enter Try.func18, Try.ntmps18
  go_wp2
  go_loopw [2, 3, 4, 12, 13, 14, 15, 16] (fun tv av lv sv iv _ _ _ wr => MdR s R w tv av lv sv iv wr) (fun _ _ _ _ iv _ _ _ _ => s.size - (intOf iv).toNat)
  case atStart => exact ⟨s.size + 1, k, i, i, last, total, rfl, rfl, rfl, rfl, rfl, hk, by omega, hi, by omega, (by rw [pc_nil]; intro x hx; cases hx), HR.out, rfl⟩
  case round =>
    clear HR hk hi
    obtain ⟨f, k, st, p, last, total, rfl, rfl, rfl, rfl, rfl, hk, hst, hp, hf, hpc, hU, hwr⟩ := hrel
    have hwr := hwr.symm
    subst hwr
    obtain ⟨f, rfl⟩ : ∃ f', f = f' + 1 := ⟨f - 1, by omega⟩
    have HU := hideQ hU
    have HPC := hideQ hpc
    clear hU hpc
    by_cases hlp : p < s.size
    · have hpp : (p : Int) < (s.size : Int) := by omega
      have HC := hideQ (rank35 (s[p]'hlp) w)
      cases hlt : letter (s[p]'hlp) with
      | false =>
        rw [rank_no hlt] at HC
        go_wp2_with (go_at_call 35; refine HC.out.mono ?_; rintro e w' ⟨rfl, rfl⟩)
        go_roundw
        case rel =>
          refine ⟨f + 1, k, st, p + 1, last, total, rfl, rfl, rfl, rfl, rfl, hk, by omega, by omega, hf, ?_, HU.out, rfl⟩
          rw [pc_snoc s st p hst hlp]
          intro x hx
          rcases List.mem_append.1 hx with hx | hx
          · exact HPC.out x hx
          · obtain rfl := List.mem_singleton.1 hx
            exact hlt
        case measure => simp [intOf]; omega
      | true =>
        have hUL := U_letter wrap64 f k last total (pc s st p) (s.data.toList.drop (p + 1)) (s[p]'hlp) hlt HPC.out
        rw [← pc_split s st p hst hlp, HU.out] at hUL
        have HUL := hideQ hUL
        clear hUL
        have H38 := hideQ (term38 (s.extract st p) (by rw [ext_size s st p hst hp]; omega) w)
        rw [ext_list] at H38
        rcases rank_yes hlt with ⟨hr, hk0⟩ | ⟨j, hj, hr, hkj⟩
        · rw [hr] at HC
          have HF : Hid (R = (0, false)) := by
            rw [HUL.out]
            cases term (pc s st p) with
            | none => exact rfl
            | some n => show Hid ((match rk (s[p]'hlp) with | none => ((0 : Int), false) | some j => _) = (0, false)); rw [hk0]; exact rfl
          clear H38 HUL HU hr hk0
          go_wp2_with (go_at_call 35; refine HC.out.mono ?_; rintro e w' ⟨rfl, rfl⟩)
          go_ret2
          refine ⟨?_, rfl⟩
          rw [HF.out]
          rfl
        · rw [hr] at HC
          by_cases hjk : j < k
          · have hjk' : ((j + 1 : Nat) : Int) < ((k + 1 : Nat) : Int) := by omega
            have HF : Hid (R = (0, false)) := by
              rw [HUL.out]
              cases term (pc s st p) with
              | none => exact rfl
              | some n => simp only [hkj]; rw [if_pos hjk]; exact rfl
            clear H38 HUL HU hr hkj
            go_wp2_with (go_at_call 35; refine HC.out.mono ?_; rintro e w' ⟨rfl, rfl⟩)
            go_ret2
            refine ⟨?_, rfl⟩
            rw [HF.out]
            rfl
          · have hjk' : ¬ ((j + 1 : Nat) : Int) < ((k + 1 : Nat) : Int) := by omega
            have hsp : (st : Int) ≤ (p : Int) := by omega
            have HKJ := hideQ hkj
            clear hkj hr
            go_wp2_with (go_at_call 35; refine HC.out.mono ?_; rintro e w' ⟨rfl, rfl⟩)
            refine H38.out.mono ?_
            rintro e w2 ⟨hw2, ⟨hn, rfl⟩ | ⟨n, hn, g1, g2, rfl⟩⟩
            · subst hw2
              have HF : Hid (R = (0, false)) := by
                have hn' : term (pc s st p) = none := hn
                rw [HUL.out, hn']
                exact rfl
              clear H38 HUL HU hn
              go_wp2
              go_ret2
              refine ⟨?_, rfl⟩
              rw [HF.out]
              rfl
            · subst hw2
              have HF : Hid (U wrap64 f (j + 1) (s[p]'hlp) (wrap64 (total + n * scl j)) (s.data.toList.drop (p + 1)) = R) := by
                have hn' : term (pc s st p) = some n := hn
                rw [HUL.out, hn']
                simp only [HKJ.out]
                rw [if_neg hjk]
                exact rfl
              clear H38 HUL HU hn
              have H36 := hideQ (scale36 j hj w2)
              obtain ⟨sc, hsc⟩ : ∃ sc, scl j = sc := ⟨_, rfl⟩
              rw [hsc] at H36 HF
              clear hsc
              go_wp2_with (go_at_call 36; refine H36.out.mono ?_; rintro e w' ⟨rfl, rfl⟩)
              go_roundw
              case rel =>
                exact ⟨f, j + 1, p + 1, p + 1, s[p]'hlp, wrap64 (total + n * sc), by rw [wrap_in'], rfl, rfl, rfl, rfl, by omega, by omega, by omega, by omega, (by rw [pc_nil]; intro x hx; cases hx), HF.out, rfl⟩
              case measure => simp [intOf]; omega
    · obtain rfl : p = s.size := by omega
      have hUE := U_end wrap64 f k last total (s.data.toList.drop st) (by rw [← pc_end]; exact HPC.out)
      rw [HU.out] at hUE
      have HUE := hideQ hUE
      clear hUE HU HPC
      by_cases hse : st = s.size
      · have heq : ((st : Int) == (s.size : Int)) = true := by simp; omega
        have HF : Hid (R = (total, true)) := by
          rw [HUE.out, if_pos (List.drop_of_length_le (by rw [size_toList]; omega))]
          exact rfl
        clear HUE
        go_wp2
        go_ret2
        refine ⟨?_, rfl⟩
        rw [HF.out]
        rfl
      · have heq : ((st : Int) == (s.size : Int)) = false := by simp; omega
        have hne : s.data.toList.drop st ≠ [] := by
          intro e
          have := congrArg List.length e
          rw [List.length_drop, size_toList, List.length_nil] at this
          omega
        have hss : (st : Int) ≤ (s.size : Int) := by omega
        have H39 := hideQ (blank39 (s.extract st s.size) (by rw [ext_size s st s.size hst (by omega)]; omega) w)
        have hpe : (s.extract st s.size).data.toList = s.data.toList.drop st := by rw [ext_list]; exact pc_end s st
        rw [hpe, decide_eq_true hne, Bool.true_and] at H39
        have HUE2 := HUE.out
        rw [if_neg hne] at HUE2
        have HE := hideQ HUE2
        clear HUE HUE2 hne hpe
        by_cases hsk : skipB (s.data.toList.drop st) = []
        · rw [decide_eq_true hsk] at H39
          have HF : Hid (R = (total, last != 115)) := by
            rw [HE.out, if_pos hsk]
            exact rfl
          clear HE hsk
          go_wp2_with (go_at_call 39; refine H39.out.mono ?_; rintro e w' ⟨rfl, rfl⟩)
          go_ret2
          refine ⟨?_, rfl⟩
          rw [HF.out, ← last_ne']
          rfl
        · rw [decide_eq_false hsk] at H39
          have HF : Hid (R = (0, false)) := by
            rw [HE.out, if_neg hsk]
            exact rfl
          clear HE hsk
          go_wp2_with (go_at_call 39; refine H39.out.mono ?_; rintro e w' ⟨rfl, rfl⟩)
          go_ret2
          refine ⟨?_, rfl⟩
          rw [HF.out]
          rfl

end Go.Proofs.Qxb6600554a
