/-
  SEAT b6600448a: WALKS 8: 'zzBytes_..' (21), 'zzSegsTooBig' (15).
-/
import Derived.Test.Qxb6600448aWSeven
namespace Go.Proofs.Qxb6600448a
open Go.RowKit
set_option linter.unusedVariables false

def AnyB (w : World) (e : Ending) (w' : World) : Prop := ∃ b : Bool, e = .returned (.bool b) ∧ w' = w
theorem AnyB.mk (w : World) (b : Bool) : AnyB w (.returned (.bool b)) w := ⟨b, rfl, rfl⟩

/-- The sizes are those of Go values. -/
def Sized (xs : List Seg) : Prop := ∀ x ∈ xs, x.2.2.length ≤ 9223372036854775807 ∧ ∀ i, i < x.2.2.length → (x.2.2.getD i ByteArray.empty).size ≤ 9223372036854775807

set_option maxRecDepth 100000 in
set_option maxHeartbeats 2000000 in
theorem zz21_any (a : Option Addr) (cap : Nat) (xs : List Seg) (path : ByteArray) (pa : Option Addr) (pn pc : Nat) (w : World) (hs : SegsAt w a xs) (hz : Sized xs) (hl : xs.length ≤ 9223372036854775807) (hp : path.size ≤ 9223372036854775807) (hpn : pn ≤ 9223372036854775807) :
    Calls Try.prog 21 #[.slice a xs.length cap, .string path, .slice pa pn pc] w (AnyB w) := by
  have HZ := hideP hz
  clear hz
  by_cases h1 : 1048576 < (xs.length : Int)
  · go_enter Try.func21, Try.ntmps21
    go_wp2
    go_ret
    exact AnyB.mk w _
  rcases hs with rfl | ⟨b, off, rfl, hb, hcell⟩
  · by_cases h2 : 1048576 < (path.size : Int)
    · go_enter Try.func21, Try.ntmps21
      go_wp2
      refine wp_loop_rounds 1 ?_
      rw [rounds_succ]
      go_wp2
      go_ret
      exact AnyB.mk w _
    by_cases h3 : 1048576 < (pn : Int)
    · go_enter Try.func21, Try.ntmps21
      go_wp2
      refine wp_loop_rounds 1 ?_
      rw [rounds_succ]
      go_wp2
      go_ret
      exact AnyB.mk w _
    by_cases h4 : 1048576 < (path.size : Int) + (pn : Int)
    · go_enter Try.func21, Try.ntmps21
      go_wp2
      refine wp_loop_rounds 1 ?_
      rw [rounds_succ]
      go_wp2
      go_ret
      exact AnyB.mk w _
    go_enter Try.func21, Try.ntmps21
    go_wp2
    refine wp_loop_rounds 1 ?_
    rw [rounds_succ]
    go_wp2
    go_ret
    exact AnyB.mk w _
  have HCe := hideP hcell
  clear hcell
  go_enter Try.func21, Try.ntmps21
  go_wp2
  go_loop [7, 8, 9] (fun z i _ => ∃ n k : Nat, k ≤ xs.length ∧ i = .int .i64 k ∧ z = .int .i64 n ∧ n ≤ 1048576) (fun _ i _ => xs.length - (intOf i).toNat)
  case atStart => exact ⟨xs.length, 0, Nat.zero_le _, rfl, by go_num, by omega⟩
  case round =>
    obtain ⟨n, k, hk, rfl, rfl, hn⟩ := hrel
    by_cases hlt : k < xs.length
    · obtain ⟨x, hx⟩ : ∃ x, xs[k]? = some x := ⟨xs[k], List.getElem?_eq_getElem hlt⟩
      obtain ⟨s1, s2⟩ := HZ.out x (List.mem_of_getElem? hx)
      obtain ⟨g1, g2, g3⟩ := HCe.out k x hx
      obtain ⟨xa, xc, ss⟩ := x
      simp only at s1 s2 g1 g2 g3
      have HS2 := hideP s2
      have HG2 := hideP g2
      have hkk : (k : Int) < (xs.length : Int) := by omega
      clear s2 g2 g3 hx
      by_cases t1 : 1048576 < (ss.length : Int)
      · go_wp2
        go_ret
        exact AnyB.mk w _
      by_cases t2 : 1048576 < (n : Int) + (ss.length : Int)
      · go_wp2
        go_ret
        exact AnyB.mk w _
      rcases HG2.out.cases with rfl | ⟨hpos, sb, so, rfl, hsb, hsc⟩
      · go_wp2
        refine wp_loop_rounds 1 ?_
        rw [rounds_succ]
        go_wp2
        go_round
        case rel => exact ⟨n, k + 1, by omega, by go_num, by go_num, hn⟩
        case measure => simp [intOf]; omega
      · have HSC := hideP hsc
        clear hsc HG2
        go_wp2
        go_loop [7, 9] (fun z i => ∃ m j : Nat, j ≤ ss.length ∧ i = .int .i64 j ∧ z = .int .i64 m ∧ m ≤ 1048576) (fun _ i => ss.length - (intOf i).toNat)
        case atStart => exact ⟨n + ss.length, 0, Nat.zero_le _, rfl, by go_num, by omega⟩
        case round =>
          obtain ⟨m, j, hj, rfl, rfl, hm⟩ := hrel
          by_cases hjl : j < ss.length
          · have d2 := HSC.out j hjl
            have d3 := HS2.out j hjl
            generalize ss.getD j ByteArray.empty = t at d2 d3
            have hjj : (j : Int) < (ss.length : Int) := by omega
            by_cases t3 : 1048576 < (t.size : Int)
            · go_wp2
              go_ret
              exact AnyB.mk w _
            by_cases t4 : 1048576 < (m : Int) + (t.size : Int)
            · go_wp2
              go_ret
              exact AnyB.mk w _
            go_wp2
            go_round
            case rel => exact ⟨m + t.size, j + 1, by omega, by go_num, by go_num, by omega⟩
            case measure => simp [intOf]; omega
          · go_wp2
            go_round
            case rel => exact ⟨m, k + 1, by omega, by go_num, by go_num, hm⟩
            case measure => simp [intOf]; omega
    · by_cases h2 : 1048576 < (path.size : Int)
      · go_wp2
        go_ret
        exact AnyB.mk w _
      by_cases h3 : 1048576 < (n : Int) + (path.size : Int)
      · go_wp2
        go_ret
        exact AnyB.mk w _
      by_cases h4 : 1048576 < (pn : Int)
      · go_wp2
        go_ret
        exact AnyB.mk w _
      by_cases h5 : 1048576 < (n : Int) + (path.size : Int) + (pn : Int)
      · go_wp2
        go_ret
        exact AnyB.mk w _
      go_wp2
      go_ret
      exact AnyB.mk w _

def TbP (xs : List Seg) (w : World) (e : Ending) (w' : World) : Prop := ∃ b : Bool, e = .returned (.bool b) ∧ w' = w ∧ (b = false → xs.length ≤ 65536 ∧ ∀ x ∈ xs, x.2.2.length ≤ 65536)
theorem TbP.yes (xs : List Seg) (w : World) : TbP xs w (.returned (.bool true)) w := ⟨true, rfl, rfl, fun h => by cases h⟩
theorem TbP.no {xs : List Seg} (w : World) (h1 : xs.length ≤ 65536) (h2 : ∀ j x, j < xs.length → xs[j]? = some x → x.2.2.length ≤ 65536) : TbP xs w (.returned (.bool false)) w :=
  ⟨false, rfl, rfl, fun _ => ⟨h1, fun x hx => by
    obtain ⟨j, hj⟩ := List.getElem?_of_mem hx
    exact h2 j x (List.getElem?_eq_some_iff.1 hj).1 hj⟩⟩

set_option maxRecDepth 100000 in
set_option maxHeartbeats 2000000 in
theorem big15_any (a : Option Addr) (cap : Nat) (xs : List Seg) (ex : Int) (w : World) (hs : SegsAt w a xs) (hz : Sized xs) (hl : xs.length ≤ 9223372036854775807) (hx0 : 0 ≤ ex) (hx1 : ex ≤ 4194304) :
    Calls Try.prog 15 #[.slice a xs.length cap, .int .i64 ex] w (TbP xs w) := by
  have HZ := hideP hz
  clear hz
  by_cases h1 : 65536 < (xs.length : Int)
  · go_enter Try.func15, Try.ntmps15
    go_wp2
    go_ret
    exact TbP.yes xs w
  by_cases h2 : 1048576 < ex
  · go_enter Try.func15, Try.ntmps15
    go_wp2
    go_ret
    exact TbP.yes xs w
  by_cases h3 : 1048576 < ex + 24 * (xs.length : Int)
  · go_enter Try.func15, Try.ntmps15
    go_wp2
    go_ret
    exact TbP.yes xs w
  rcases hs with rfl | ⟨b, off, rfl, hb, hcell⟩
  · go_enter Try.func15, Try.ntmps15
    go_wp2
    refine wp_loop_rounds 1 ?_
    rw [rounds_succ]
    go_wp2
    go_ret
    exact TbP.no w (by simp) (by simp)
  have HCe := hideP hcell
  clear hcell
  go_enter Try.func15, Try.ntmps15
  go_wp2
  go_loop [5, 6, 7] (fun z i _ => ∃ (n : Int) (k : Nat), k ≤ xs.length ∧ i = .int .i64 k ∧ z = .int .i64 n ∧ ∀ j x, j < k → xs[j]? = some x → x.2.2.length ≤ 65536) (fun _ i _ => xs.length - (intOf i).toNat)
  case atStart => exact ⟨ex + 24 * (xs.length : Int), 0, Nat.zero_le _, rfl, rfl, fun j x hj => absurd hj (by omega)⟩
  case round =>
    obtain ⟨n, k, hk, rfl, rfl, hall⟩ := hrel
    have HA := hideP hall
    clear hall
    by_cases hlt : k < xs.length
    · obtain ⟨x, hx⟩ : ∃ x, xs[k]? = some x := ⟨xs[k], List.getElem?_eq_getElem hlt⟩
      obtain ⟨s1, s2⟩ := HZ.out x (List.mem_of_getElem? hx)
      obtain ⟨g1, g2, g3⟩ := HCe.out k x hx
      obtain ⟨xa, xc, ss⟩ := x
      simp only at s1 s2 g1 g2 g3
      have HS2 := hideP s2
      have HG2 := hideP g2
      have HX := hideP hx
      have hkk : (k : Int) < (xs.length : Int) := by omega
      clear s2 g2 g3 hx
      by_cases t1 : 65536 < (ss.length : Int)
      · go_wp2
        go_ret
        exact TbP.yes xs w
      have HA2 : Hid (∀ j x, j < k + 1 → xs[j]? = some x → x.2.2.length ≤ 65536) := by
        intro j x hj hjx
        by_cases hj2 : j < k
        · exact HA.out j x hj2 hjx
        · obtain rfl : j = k := by omega
          rw [HX.out] at hjx
          cases hjx
          show ss.length ≤ 65536
          omega
      by_cases t2 : 1048576 < wrap64 (n + 16 * (ss.length : Int))
      · go_wp2
        go_ret
        exact TbP.yes xs w
      rcases HG2.out.cases with rfl | ⟨hpos, sb, so, rfl, hsb, hsc⟩
      · have t2' : ¬ 1048576 < wrap64 n := by simpa using t2
        go_wp2
        refine wp_loop_rounds 1 ?_
        rw [rounds_succ]
        go_wp2
        go_round
        case rel => exact ⟨_, k + 1, by omega, by go_num, rfl, HA2.out⟩
        case measure => simp [intOf]; omega
      · have HSC := hideP hsc
        clear hsc HG2
        go_wp2
        go_loop [5, 7] (fun z i => ∃ (m : Int) (j : Nat), j ≤ ss.length ∧ i = .int .i64 j ∧ z = .int .i64 m) (fun _ i => ss.length - (intOf i).toNat)
        case atStart => exact ⟨_, 0, Nat.zero_le _, rfl, rfl⟩
        case round =>
          obtain ⟨m, j, hj, rfl, rfl⟩ := hrel
          by_cases hjl : j < ss.length
          · have d2 := HSC.out j hjl
            have d3 := HS2.out j hjl
            generalize ss.getD j ByteArray.empty = t at d2 d3
            have hjj : (j : Int) < (ss.length : Int) := by omega
            by_cases t4 : 1048576 < wrap64 (m + (t.size : Int))
            · go_wp2
              go_ret
              exact TbP.yes xs w
            go_wp2
            go_round
            case rel => exact ⟨_, j + 1, by omega, by go_num, rfl⟩
            case measure => simp [intOf]; omega
          · go_wp2
            go_round
            case rel => exact ⟨m, k + 1, by omega, by go_num, rfl, HA2.out⟩
            case measure => simp [intOf]; omega
    · have hke : k = xs.length := by omega
      subst hke
      go_wp2
      go_ret
      exact TbP.no w (by omega) (fun j x hj hx => HA.out j x hj hx)

end Go.Proofs.Qxb6600448a
