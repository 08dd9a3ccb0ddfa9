/-
  SEAT b6600554a: WALKS 4: 'unitSeconds' (50), 'units' (37).
-/
import Derived.Test.Qxb6600554aWThree
import Derived.Lib.Bytealg
import Derived.Deep.RegionWith
import Derived.Deep.CutRange
import Derived.Test.Qxb6600554aReg
namespace Go.Proofs.Qxb6600554a
open Go.RowKit
set_option linter.unusedVariables false

def US : Nat → ByteArray
  | 0 => ⟨#[104, 109, 115]⟩
  | 1 => ⟨#[109, 115]⟩
  | 2 => ⟨#[115]⟩
  | _ => ⟨#[]⟩

theorem us_size : ∀ k, k ≤ 3 → (US k).size = 3 - k
  | 0, _ => rfl
  | 1, _ => rfl
  | 2, _ => rfl
  | 3, _ => rfl

theorem us_ext : ∀ k j, k ≤ j → j < 3 → (US k).extract (j - k + 1) (US k).size = US (j + 1)
  | 0, 0, _, _ => rfl
  | 0, 1, _, _ => rfl
  | 0, 2, _, _ => rfl
  | 1, 1, _, _ => rfl
  | 1, 2, _, _ => rfl
  | 2, 2, _, _ => rfl
  | k + 3, j, h1, h2 => absurd h1 (by omega)

theorem idx_cons (b : UInt8) (l : List UInt8) (q : UInt8) : Lib.indexByte (b :: l) q = if (b == q) = true then 0 else if (Lib.indexByte l q == -1) = true then -1 else Lib.indexByte l q + 1 := by
  rw [Lib.indexByte]

theorem us_none (k : Nat) (hk : k ≤ 3) (u : UInt8) (h : rk u = none) : Lib.indexByte (US k).data.toList u = -1 := by
  unfold rk at h
  have h1 : u ≠ 104 := by intro e; rw [if_pos e] at h; cases h
  rw [if_neg h1] at h
  have h2 : u ≠ 109 := by intro e; rw [if_pos e] at h; cases h
  rw [if_neg h2] at h
  have h3 : u ≠ 115 := by intro e; rw [if_pos e] at h; cases h
  have e1 : ((104 : UInt8) == u) = false := by simp; exact fun e => h1 e.symm
  have e2 : ((109 : UInt8) == u) = false := by simp; exact fun e => h2 e.symm
  have e3 : ((115 : UInt8) == u) = false := by simp; exact fun e => h3 e.symm
  match k, hk with
  | 0, _ => simp [US, Lib.indexByte, e1, e2, e3]
  | 1, _ => simp [US, Lib.indexByte, e2, e3]
  | 2, _ => simp [US, Lib.indexByte, e3]
  | 3, _ => simp [US, Lib.indexByte]

theorem rk_some {u : UInt8} {j : Nat} (h : rk u = some j) : (u = 104 ∧ j = 0) ∨ (u = 109 ∧ j = 1) ∨ (u = 115 ∧ j = 2) := by
  unfold rk at h
  by_cases h1 : u = 104
  · rw [if_pos h1] at h; cases h; exact .inl ⟨h1, rfl⟩
  rw [if_neg h1] at h
  by_cases h2 : u = 109
  · rw [if_pos h2] at h; cases h; exact .inr (.inl ⟨h2, rfl⟩)
  rw [if_neg h2] at h
  by_cases h3 : u = 115
  · rw [if_pos h3] at h; cases h; exact .inr (.inr ⟨h3, rfl⟩)
  rw [if_neg h3] at h; cases h

theorem us_some (k : Nat) (hk : k ≤ 3) (u : UInt8) (j : Nat) (h : rk u = some j) : Lib.indexByte (US k).data.toList u = if j < k then -1 else ((j - k : Nat) : Int) := by
  rcases rk_some h with ⟨rfl, rfl⟩ | ⟨rfl, rfl⟩ | ⟨rfl, rfl⟩ <;> (match k, hk with | 0, _ => rfl | 1, _ => rfl | 2, _ => rfl | 3, _ => rfl)

theorem skipB_idem (l : List UInt8) : skipB (skipB l) = skipB l := by
  have key : ∀ m : List UInt8, skipB (m.dropWhile isSp) = m.dropWhile isSp := by
    intro m
    induction m with
    | nil => rfl
    | cons c m ih =>
      rw [List.dropWhile_cons]
      split
      · exact ih
      · rename_i hc
        rw [skipB_cons, if_neg]
        intro hst
        exact hc (st_sp hst)
  cases l with
  | nil => rfl
  | cons c l =>
    by_cases h : isSt c = true
    · rw [skipB_cons, if_pos h]; exact key l
    · rw [skipB_cons, if_neg h, skipB_cons, if_neg h]

theorem num_skip (l : List UInt8) : num (skipB l) = num l := by
  unfold num
  rw [skipB_idem]

theorem num_range {l r : List UInt8} {n : Int} (h : num l = some (n, r)) : -2147483647 ≤ n ∧ n ≤ 2147483647 := by
  unfold num numS at h
  simp only at h
  split at h
  · cases h
  · rename_i hc
    have hv : ¬ 2147483647 < val ((sign (skipB l)).2.takeWhile isDg) := fun e => hc (.inr e)
    cases h
    split <;> omega

theorem num_len {l r : List UInt8} {n : Int} (h : num l = some (n, r)) : r.length ≤ l.length := by
  unfold num numS at h
  simp only at h
  split at h
  · cases h
  · cases h
    have h1 := (List.dropWhile_sublist (p := isDg) (l := (sign (skipB l)).2)).length_le
    have h2 := sign_len (skipB l)
    have h3 := skipB_len l
    omega

theorem us50 (u : UInt8) (j : Nat) (h : rk u = some j) (w : World) : Calls Try.prog 50 #[.int .u8 u.toNat] w fun e w' => e = .returned (.int .i64 (scl j)) ∧ w' = w := by
  rcases rk_some h with ⟨rfl, rfl⟩ | ⟨rfl, rfl⟩ | ⟨rfl, rfl⟩
  all_goals
    go_enter Try.func50, Try.ntmps50
    go_wp2
    go_ret
    exact ⟨rfl, rfl⟩

def UnP (b : Nat) (R : Int × Bool) (w : World) (e : Ending) (w' : World) : Prop := e = .returned (.tuple #[.int .i64 R.1, .bool R.2]) ∧ Below b w w'

/-- The loop's state. -/
def UnR (b : Nat) (s : ByteArray) (R : Int × Bool) (w : World) (tv uv lv : Value) (wr : World) : Prop :=
  ∃ (f k p : Nat) (last : UInt8) (total : Int), tv = .int .i64 total ∧ uv = .string (US k) ∧ lv = .int .u8 last.toNat ∧ k ≤ 3 ∧ p ≤ s.size ∧ s.size - p < f ∧ U wrap64 f k last total (s.data.toList.drop p) = R ∧ DAt wr b s p ∧ Below b w wr

def atOf (b : Nat) (wr : World) : Nat := match wr.cell? ⟨b, 1, none⟩ with
  | some (.int _ x) => x.toNat
  | _ => 0

theorem atOf_eq {b i : Nat} {s : ByteArray} {w : World} (h : DAt w b s i) : atOf b w = i := by
  unfold atOf
  rw [h.at.2.1]
  simp

theorem idx_no (k : Nat) (hk : k ≤ 3) (u : UInt8) (h : ∀ j, rk u = some j → j < k) (w : World) : Calls Try.prog 49 #[.string (US k), .int .u8 u.toNat] w fun e w' => e = .returned (.int .i64 (-1)) ∧ w' = w := by
  refine (idx49_any _ _ _).mono ?_
  rintro e w' ⟨rfl, rfl⟩
  refine ⟨?_, rfl⟩
  have hu : (u.toNat : Int).toNat.toUInt8 = u := by simp
  rw [hu]
  cases hr : rk u with
  | none => rw [us_none k hk u hr]
  | some j => rw [us_some k hk u j hr, if_pos (h j hr)]
theorem idx_yes (k : Nat) (hk : k ≤ 3) (u : UInt8) (j : Nat) (h : rk u = some j) (hj : k ≤ j) (w : World) : Calls Try.prog 49 #[.string (US k), .int .u8 u.toNat] w fun e w' => e = .returned (.int .i64 ((j - k : Nat) : Int)) ∧ w' = w := by
  refine (idx49_any _ _ _).mono ?_
  rintro e w' ⟨rfl, rfl⟩
  refine ⟨?_, rfl⟩
  have hu : (u.toNat : Int).toNat.toUInt8 = u := by simp
  rw [hu, us_some k hk u j h, if_neg (by omega)]

/-- What follows a number. -/
def Nx (f k : Nat) (total : Int) (o : Option (Int × List UInt8)) : Int × Bool := match o with
  | none => (0, false)
  | some (n, r) => match r with
    | [] => (0, false)
    | u :: r' => match rk u with
      | none => (0, false)
      | some j => if j < k then (0, false) else U wrap64 f (j + 1) u (wrap64 (total + n * scl j)) r'

theorem U_cons' (f k : Nat) (last : UInt8) (total : Int) (c : UInt8) (l' : List UInt8) : U wrap64 (f + 1) k last total (c :: l') =
    if isSt c = true ∧ skipB (c :: l') = [] then (total, last != 115) else Nx f k total (num (c :: l')) := rfl

theorem U_next {s : ByteArray} {p j f k : Nat} {st : Bool} {last : UInt8} {total : Int} {R : Int × Bool} (hlp : p < s.size) (hjs : j ≤ s.size)
    (hdj : s.data.toList.drop j = skipB (s.data.toList.drop p)) (hst : startB (s.data.toList.drop p) = st) (hU : U wrap64 (f + 1) k last total (s.data.toList.drop p) = R) :
    ((st && decide (j = s.size)) = true → R = (total, last != 115)) ∧ ((st && decide (j = s.size)) = false → Nx f k total (num (s.data.toList.drop j)) = R) := by
  rw [hdj, num_skip]
  rw [drop_at s p hlp] at hst hU hdj ⊢
  rw [U_cons'] at hU
  have hst' : isSt (s[p]'hlp) = st := hst
  rw [← hdj, hst'] at hU
  constructor
  · intro hc
    obtain ⟨h1, h2⟩ := Bool.and_eq_true_iff.1 hc
    have h3 : j = s.size := of_decide_eq_true h2
    rw [if_pos ⟨h1, List.drop_of_length_le (by rw [size_toList]; omega)⟩] at hU
    exact hU.symm
  · intro hc
    rw [if_neg] at hU
    · exact hU
    · rintro ⟨h1, h2⟩
      have h3 := congrArg List.length h2
      rw [List.length_drop, size_toList, List.length_nil] at h3
      have h4 : j = s.size := by omega
      rw [h1, decide_eq_true h4] at hc
      cases hc

theorem last_ne (last : UInt8) : ((last.toNat : Int) != 115) = (last != 115) := by
  by_cases h : last = 115
  · subst h; rfl
  · have h1 : (last != 115) = true := by simpa using h
    rw [h1]
    have h2 : ¬ (last.toNat : Int) = 115 := by
      intro e
      apply h
      apply UInt8.toNat_inj.1
      show last.toNat = 115
      omega
    simpa using h2

theorem wrap_in (a x : Int) : wrap64 (a + wrap64 x) = wrap64 (a + x) := by
  unfold wrap64
  omega

set_option maxRecDepth 100000 in
set_option maxHeartbeats 4000000 in
theorem units_any (b : Nat) (s : ByteArray) (i : Nat) (hi0 : 1 ≤ i) (hi : i ≤ s.size) (k : Nat) (hk : k ≤ 3) (total : Int) (w : World) (hs : s.size ≤ 1048576) (h : DAt w b s i) :
    Calls Try.prog 37 #[.pointer (some ⟨b, 0, none⟩), .int .i64 total, .string (US k)] w (UnP b (U wrap64 (s.size + 1) k (s[i - 1]'(by omega)) total (s.data.toList.drop i)) w) := by
  obtain ⟨R, hR⟩ : ∃ R, U wrap64 (s.size + 1) k (s[i - 1]'(by omega)) total (s.data.toList.drop i) = R := ⟨_, rfl⟩
  rw [hR]
  have HR := hideQ hR
  clear hR
  obtain ⟨i', rfl⟩ : ∃ i', i = i' + 1 := ⟨i - 1, by omega⟩
  have hlt0 : i' < s.size := by omega
  have hii : (i' : Int) < (s.size : Int) := by omega
  obtain ⟨c0, c1, cf⟩ := h.at
  have HD := hideQ h
  clear h
  go_enter Try.func37, Try.ntmps37
  go_wp2
  go_quiet (fail)
  go_wp2
  go_loopw [1, 2, 8, 9, 10, 11, 12] (fun tv uv lv _ _ _ _ wr => UnR b s R w tv uv lv wr) (fun _ _ _ _ _ _ _ wr => s.size - atOf b wr)
  case atStart => exact ⟨s.size + 1, k, i' + 1, s[i']'hlt0, total, rfl, rfl, rfl, hk, hi, by omega, HR.out, HD.out.drewN _, below_drewN (Below.refl _ _) _⟩
  case round =>
    obtain ⟨f, k, p, last, total, rfl, rfl, rfl, hk, hp, hf, hU, hD, hB⟩ := hrel
    obtain ⟨f, rfl⟩ : ∃ f', f = f' + 1 := ⟨f - 1, by omega⟩
    obtain ⟨e0, e1, ef⟩ := hD.at
    have HM := hideQ (atOf_eq hD)
    have H1 := hideQ hD
    have H2 := hideQ hB
    have HU := hideQ hU
    clear hD hB hU c0 c1 cf HD HR
    by_cases hlp : p < s.size
    · have hpp : (p : Int) < (s.size : Int) := by omega
      have hd1 : decide ((p : Int) < (s.size : Int)) = true := decide_eq_true hpp
      obtain ⟨j, hj, hpj, hjs, hdj⟩ := drop_skip s p hp
      have HJ := hideQ hj
      have HDJ := hideQ hdj
      clear hj hdj
      obtain ⟨st, hst⟩ : ∃ st, startB (s.data.toList.drop p) = st := ⟨_, rfl⟩
      have HST := hideQ hst
      go_wp2
      go_quiet (fail)
      go_upto_region 3 with fail
      have HBl : Hid (Calls Try.prog 48 #[.pointer (some ⟨b, 0, none⟩)] (wr.drewN (nq + 1)) (RdP b s (.bool st) j (wr.drewN (nq + 1)))) := by
        have := blanks_any b s p hp (wr.drewN (nq + 1)) hs H1.out
        rw [hst, ← HJ.out] at this
        exact this
      go_cut [46] from 23 to 78 (fun c wx => c = .bool (st && decide (j = s.size)) ∧ DAt wx b s j ∧ Below b w wx)
      case first =>
        clear hst
        cases st with
        | false =>
          refine wp_region_call (f := 48) (args := #[.pointer (some ⟨b, 0, none⟩)]) (by kernel_rfl) (by kernel_rfl) (by kernel_rfl) (by kernel_rfl) (by kernel_rfl) rfl rfl rfl (by first | rfl | go_simp) ?_
          refine HBl.out.mono ?_
          rintro e w2 ⟨rfl, hD2, hB2⟩
          refine ⟨_, rfl, ?_⟩
          obtain ⟨f0, f1, ff⟩ := hD2.at
          have H4 := hideQ hD2
          have H5 := hideQ (below_drewN H2.out (nq + 1) |>.trans hB2)
          clear hD2 hB2 e0 e1 ef
          go_simp
          repeat (go_big_quiet_step (fail))
          refine wpQuiet_nil ?_
          intro nq2
          go_wp2
          go_meet
          exact ⟨rfl, H4.out.drewN _, below_drewN H5.out _⟩
        | true =>
          refine wp_region_call (f := 48) (args := #[.pointer (some ⟨b, 0, none⟩)]) (by kernel_rfl) (by kernel_rfl) (by kernel_rfl) (by kernel_rfl) (by kernel_rfl) rfl rfl rfl (by first | rfl | go_simp) ?_
          refine HBl.out.mono ?_
          rintro e w2 ⟨rfl, hD2, hB2⟩
          refine ⟨_, rfl, ?_⟩
          obtain ⟨f0, f1, ff⟩ := hD2.at
          have H4 := hideQ hD2
          have H5 := hideQ (below_drewN H2.out (nq + 1) |>.trans hB2)
          clear hD2 hB2 e0 e1 ef
          go_simp
          repeat (go_big_quiet_step (fail))
          refine wpQuiet_nil ?_
          intro nq2
          go_wp2
          go_meet
          refine ⟨?_, H4.out.drewN _, below_drewN H5.out _⟩
          have e : ((j : Int) == (s.size : Int)) = decide (j = s.size) := by
            by_cases h : j = s.size
            · simp [h]
            · rw [decide_eq_false h]; simp; omega
          rw [e, Bool.true_and]
      case rest =>
        have HX := hideQ (U_next hlp hjs HDJ.out HST.out HU.out)
        obtain ⟨rfl, hD3, hB3⟩ := hcut
        cases hc : (st && decide (j = s.size)) with
        | true =>
          have HC := hideQ hc
          clear hc
          go_wp2
          go_ret2
          refine ⟨?_, hB3⟩
          rw [HX.out.1 HC.out, ← last_ne]
          rfl
        | false =>
          have HN2 := hideQ (HX.out.2 hc)
          clear hc HX hst HU
          have HN := hideQ (number_any b s j hjs wc hs hD3)
          have H3 := hideQ hB3
          clear hD3 hB3 e0 e1 ef H1 H2 HBl
          go_wp2_with fail
          refine HN.out.mono ?_
          rintro e w4 hNu
          rcases hNu with ⟨hn, rfl, ⟨j4, hj4, hD4⟩, hB4⟩ | ⟨n, r, hn, rfl, hr, hD4, hdr, hB4⟩
          · have H4 := hideQ (H3.out.trans hB4)
            rw [hn] at HN2
            clear hn hD4 hB4
            go_wp2
            go_ret2
            refine ⟨?_, H4.out⟩
            rw [← HN2.out]
            rfl
          · have H4 := hideQ (H3.out.trans hB4)
            have HD4 := hideQ hD4
            rw [hn] at HN2
            have HDR := hideQ hdr
            obtain ⟨hn1, hn2⟩ := num_range hn
            have hnl := num_len hn
            rw [List.length_drop, size_toList] at hnl
            obtain ⟨q, hq⟩ : ∃ q, q = s.size - r.length := ⟨_, rfl⟩
            rw [← hq] at HD4 HDR
            have hqs : q ≤ s.size := by omega
            have hpq : p ≤ q := by omega
            clear hnl hn hD4 hB4 hdr hq hr HN
            go_wp2_with fail
            by_cases hlq : q < s.size
            · refine (next_more b s q hlq w4 hs HD4.out).mono ?_
              rintro e w5 ⟨rfl, hD5, hB5⟩
              have HD5 := hideQ hD5
              have H5 := hideQ (H4.out.trans hB5)
              rw [← HDR.out, drop_at s q hlq] at HN2
              clear hD5 hB5 HD4 H4 HDR H3
              obtain ⟨u, hu⟩ : ∃ u, s[q]'hlq = u := ⟨_, rfl⟩
              rw [hu] at HN2 ⊢
              clear hu
              by_cases hok : ∃ jj, rk u = some jj ∧ k ≤ jj
              · obtain ⟨jj, hr, hkj⟩ := hok
                obtain ⟨d, hd⟩ : ∃ d, d = jj - k := ⟨_, rfl⟩
                have HI := hideQ (idx_yes k hk u jj hr hkj w5)
                rw [← hd] at HI
                have hu0 : ((u.toNat : Int) == 0) = false := by
                  rcases rk_some hr with ⟨rfl, _⟩ | ⟨rfl, _⟩ | ⟨rfl, _⟩ <;> rfl
                have hj3 := (rk_letter hr).2
                have hsz : (US k).size = 3 - k := us_size k hk
                have hlo : ¬ (d : Int) < 0 := by omega
                have HS := hideQ (us_ext k jj hkj hj3)
                rw [← hd] at HS
                have HR := hideQ hr
                have hd' : d + k = jj := by omega
                have hdk : d + 1 ≤ 3 - k := by omega
                clear hd
                go_wp2_with (go_at_call 49; refine HI.out.mono ?_; rintro e w' ⟨rfl, rfl⟩)
                refine (us50 u jj hr _).mono ?_
                rintro e w' ⟨rfl, rfl⟩
                obtain ⟨sc, hsc⟩ : ∃ sc, scl jj = sc := ⟨_, rfl⟩
                rw [hsc]
                have HSC := hideQ hsc
                clear hsc HI
                go_wp2_with fail
                go_roundw
                case rel =>
                  refine ⟨f, jj + 1, q + 1, u, wrap64 (total + n * scl jj), ?_, ?_, rfl, by omega, by omega, by omega, ?_, HD5.out, H5.out⟩
                  · rw [wrap_in, HSC.out]
                  · rw [← HS.out, hsz]
                  · rw [← HN2.out]
                    unfold Nx
                    simp only [hr]
                    rw [if_neg (by omega)]
                case measure =>
                  rw [atOf_eq HD5.out, HM.out]
                  omega
              · have hno : ∀ j, rk u = some j → j < k := fun j hj => by
                  by_cases h : j < k
                  · exact h
                  · exact absurd ⟨j, hj, by omega⟩ hok
                have HI := hideQ (idx_no k hk u hno w5)
                have HF : Hid (R = (0, false)) := by
                  rw [← HN2.out]
                  unfold Nx
                  simp only
                  cases hr : rk u with
                  | none => rfl
                  | some j => simp only; rw [if_pos (hno j hr)]; exact rfl
                clear hok hno HN2
                cases hz : ((u.toNat : Int) == 0)
                all_goals
                  go_wp2_with (go_at_call 49; refine HI.out.mono ?_; rintro e w' ⟨rfl, rfl⟩)
                  go_ret2
                  refine ⟨?_, H5.out⟩
                  rw [HF.out]
                  rfl
            · obtain rfl : q = s.size := by omega
              refine (next_end b s w4 hs HD4.out).mono ?_
              rintro e w5 ⟨rfl, hD5, hB5⟩
              have HD5 := hideQ hD5
              have H5 := hideQ (H4.out.trans hB5)
              rw [← HDR.out, List.drop_of_length_le (by rw [size_toList]; omega)] at HN2
              clear hD5 hB5 HD4 H4 HDR H3
              go_wp2_with (go_at_call 49; refine (idx49_any _ _ _).mono ?_; rintro e w' ⟨rfl, rfl⟩)
              go_ret2
              refine ⟨?_, H5.out⟩
              rw [← HN2.out]
              rfl
    · obtain rfl : p = s.size := by omega
      have HF : Hid (R = (total, true)) := by
        rw [← HU.out, List.drop_of_length_le (by rw [size_toList]; omega)]
        exact rfl
      go_wp2
      go_quiet (fail)
      go_wp2
      go_ret2
      refine ⟨?_, below_drewN H2.out _⟩
      rw [HF.out]
      rfl

end Go.Proofs.Qxb6600554a
