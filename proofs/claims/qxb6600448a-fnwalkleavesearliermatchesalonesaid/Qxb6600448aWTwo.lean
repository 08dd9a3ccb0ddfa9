/-
  SEAT b6600448a: WALKS 2: 'zzSegKind' (27), 'zzWalkTree' (17).
-/
import Derived.Test.Qxb6600448aWOne
import Derived.BigRegion
import Derived.Deep.RegionWith
namespace Go.Proofs.Qxb6600448a
open Go.RowKit
set_option linter.unusedVariables false

/-- A slice of strings as the walks see it. -/
def StrSl (w : World) (a : Option Addr) (ss : List ByteArray) : Prop :=
  ss = [] ∨ ∃ b off, a = some ⟨b, off, none⟩ ∧ b < w.heap.size ∧ ∀ i, i < ss.length → w.cell? ⟨b, off + i, none⟩ = some (.string (ss.getD i ByteArray.empty))

theorem StrSl.below {w w' : World} {a : Option Addr} {ss : List ByteArray} (h : StrSl w a ss) (hb : Below w.heap.size w w') : StrSl w' a ss := by
  rcases h with h | ⟨b, off, h1, h2, h3⟩
  · exact .inl h
  · exact .inr ⟨b, off, h1, Nat.lt_of_lt_of_le h2 hb.size, fun i hi => (hb.cell (by exact h2)).trans (h3 i hi)⟩

theorem StrSl.cases {w : World} {a : Option Addr} {ss : List ByteArray} (h : StrSl w a ss) : ss = [] ∨ (0 < ss.length ∧ ∃ b off, a = some ⟨b, off, none⟩ ∧ b < w.heap.size ∧ ∀ i, i < ss.length → w.cell? ⟨b, off + i, none⟩ = some (.string (ss.getD i ByteArray.empty))) := by
  rcases h with h | h
  · exact .inl h
  · cases ss with
    | nil => exact .inl rfl
    | cons x l => exact .inr ⟨by simp, h⟩

/-- One of the lists: its address, its capacity, its strings. -/
abbrev Seg := Option Addr × Nat × List ByteArray

def SegsAt (w : World) (a : Option Addr) (xs : List Seg) : Prop :=
  xs = [] ∨ ∃ b off, a = some ⟨b, off, none⟩ ∧ b < w.heap.size ∧ ∀ i x, xs[i]? = some x → w.cell? ⟨b, off + i, none⟩ = some (.slice x.1 x.2.2.length x.2.1) ∧ StrSl w x.1 x.2.2 ∧ (x.1 = none → x.2.2 = [])

theorem SegsAt.below {w w' : World} {a : Option Addr} {xs : List Seg} (h : SegsAt w a xs) (hb : Below w.heap.size w w') : SegsAt w' a xs := by
  rcases h with h | ⟨b, off, h1, h2, h3⟩
  · exact .inl h
  · exact .inr ⟨b, off, h1, Nat.lt_of_lt_of_le h2 hb.size, fun i x hx => by
      obtain ⟨g1, g2, g3⟩ := h3 i x hx
      exact ⟨(hb.cell (by exact h2)).trans g1, g2.below hb, g3⟩⟩

def KP (w : World) (e : Ending) (w' : World) : Prop := ∃ k : Int, e = .returned (.int .i64 k) ∧ w' = w
theorem KP.mk (w : World) (k : Int) : KP w (.returned (.int .i64 k)) w := ⟨k, rfl, rfl⟩

set_option maxHeartbeats 400000 in
theorem segKind_any (b off n cap j : Nat) (s : ByteArray) (w : World) (hj : j < n) (hn : n ≤ 1048576) (hc : w.cell? ⟨b, off + j, none⟩ = some (.string s)) :
    Calls Try.prog 27 #[.slice (some ⟨b, off, none⟩) n cap, .int .i64 j] w (KP w) := by
  go_enter Try.func27, Try.ntmps27
  go_wp2
  all_goals (go_ret; exact KP.mk w _)

def WtP (B : Nat) (nT : Int) (n : Nat) (w : World) (e : Ending) (w' : World) : Prop :=
  ∃ b N P O, e = .returned (.pointer (some ⟨b, 0, none⟩)) ∧ Inv B nT n w' N P O ∧ b ∈ N ∧ Below B w w' ∧ w.heap.size ≤ w'.heap.size

theorem inv_start (w : World) (nT : Int) : Inv w.heap.size nT 0 (w.alloc (.cells #[.map none, .pointer none, .pointer none, .slice none 0 0] 51)) [w.heap.size] (fun _ => []) (fun _ => 0) := by
  have h0 : Inv w.heap.size nT 0 w [] (fun _ => []) (fun _ => 0) := ⟨List.nodup_nil, fun b hb => (by cases hb), fun b hb => (by cases hb), Nat.le_refl _⟩
  have h1 := h0.newNode (Nat.le_refl _) []
  have e : setP (fun _ => ([] : List Step)) w.heap.size [] = fun _ => [] := by funext k; simp [setP]
  rw [e] at h1
  exact h1

set_option maxRecDepth 100000 in
set_option maxHeartbeats 1000000 in
theorem tree_any (a : Option Addr) (cap : Nat) (xs : List Seg) (w : World) (hn : xs.length ≤ 65536) (hm : ∀ x ∈ xs, x.2.2.length ≤ 65536) (hs : SegsAt w a xs) :
    Calls Try.prog 17 #[.slice a xs.length cap] w (WtP w.heap.size xs.length xs.length w) := by
  have HS := hideP hs
  have HM := hideP hm
  clear hs hm
  go_enter Try.func17, Try.ntmps17
  go_wp2_with fail
  refine (newNode_any w).mono ?_
  rintro e w1 ⟨rfl, rfl⟩
  have HI0 := hideP (inv_start w xs.length)
  have HB0 : Hid (Below w.heap.size w (w.alloc (.cells #[.map none, .pointer none, .pointer none, .slice none 0 0] 51))) := (Below.refl _ _).alloc (Nat.le_refl _) _
  go_wp2
  rcases HS.out with rfl | ⟨b, off, rfl, hb, hcell⟩
  · refine wp_loop_rounds 1 ?_
    rw [rounds_succ]
    go_wp2
    go_ret
    exact ⟨_, _, _, _, rfl, HI0.out, by simp, HB0.out, by simp⟩
  have HCe := hideP hcell
  clear hcell HS
  go_loopw [4] (fun iv wr => ∃ (i : Nat) (N : List Nat) (P : Nat → List Step) (O : Nat → Nat), i ≤ xs.length ∧ iv = .int .i64 i ∧ Inv w.heap.size xs.length i wr N P O ∧ w.heap.size ∈ N ∧ Below w.heap.size w wr ∧ w.heap.size < wr.heap.size) (fun iv _ => xs.length - (intOf iv).toNat)
  case atStart => exact ⟨0, _, _, _, Nat.zero_le _, rfl, HI0.out, by simp, HB0.out, by simp⟩
  case round =>
    obtain ⟨i, N, P, O, hi, rfl, hI, hr, hbw, hsz⟩ := hrel
    clear HI0 HB0
    have HI := hideP hI
    have HB := hideP hbw
    clear hI hbw
    by_cases hlt : i < xs.length
    · obtain ⟨x, hx⟩ : ∃ x, xs[i]? = some x := ⟨xs[i], List.getElem?_eq_getElem hlt⟩
      have hxm := HM.out x (List.mem_of_getElem? hx)
      obtain ⟨g1, g2, g3⟩ := HCe.out i x hx
      obtain ⟨xa, xc, ss⟩ := x
      simp only at hxm g1 g2 g3
      go_wp2
      go_loopw [5, 6] (fun nv jv wr => ∃ (j c : Nat) (N : List Nat) (P : Nat → List Step) (O : Nat → Nat), j ≤ ss.length ∧ jv = .int .i64 j ∧ nv = .pointer (some ⟨c, 0, none⟩) ∧ c ∈ N ∧ Inv w.heap.size xs.length i wr N P O ∧ w.heap.size ∈ N ∧ Below w.heap.size w wr ∧ w.heap.size < wr.heap.size) (fun _ jv _ => ss.length - (intOf jv).toNat)
      case atStart => exact ⟨0, w.heap.size, N, P, O, Nat.zero_le _, rfl, rfl, hr, HI.out, hr, HB.out, hsz⟩
      case round =>
        obtain ⟨j, c, N2, P2, O2, hj, rfl, rfl, hc, hI2, hr2, hbw2, hsz2⟩ := hrel
        have d1 : wr.cell? ⟨b, off + i, none⟩ = some (.slice xa ss.length xc) := (hbw2.cell (by exact hb)).trans g1
        have HI2 := hideP hI2
        have HB2 := hideP hbw2
        by_cases hjl : j < ss.length
        · rcases g2.cases with rfl | ⟨hp, sb, so, rfl, hsb, hsc⟩
          · simp at hjl
          have d2 : wr.cell? ⟨sb, so + j, none⟩ = some (.string (ss.getD j ByteArray.empty)) := (hbw2.cell (by exact hsb)).trans (hsc j hjl)
          generalize ss.getD j ByteArray.empty = t at d2
          clear hI2 hbw2 g1 g2 g3 HCe HM HI HB hsc
          have HI3 : Hid (Inv w.heap.size xs.length i wr.drew N2 P2 O2) := HI2.out.keep (Below.refl wr.heap.size wr).drew
          have HB3 : Hid (Below w.heap.size w wr.drew) := HB2.out.drew
          have hsz3 : w.heap.size < wr.drew.heap.size := hsz2
          have hjj : (j : Int) < (ss.length : Int) := by omega
          have hii : (i : Int) < (xs.length : Int) := by omega
          go_wp2
          go_region_with (first | (go_at_call 27; refine (segKind_any sb so ss.length xc j t _ hjl (by omega) (by simpa using d2)).mono ?_; rintro e w' ⟨kk, rfl, rfl⟩) | (go_at_call 24; refine (zzchild_any w.heap.size xs.length i _ N2 P2 O2 c hc _ _ HI3.out (by simp; omega)).mono ?_; rintro e w' ⟨c2, N3, P3, O3, rfl, k1, k2, k3, k4, k5⟩))
          all_goals
            have HK1 := hideP k1
            have HK2 := hideP (HB3.out.trans k4)
            have HK3 := hideP (k3 _ hr2)
            have hk5 : w.heap.size < w'.heap.size := Nat.lt_of_lt_of_le hsz3 k5
            clear k1 k3 k4 k5
            go_wp2
            go_roundw
            case rel => exact ⟨j + 1, c2, N3, P3, O3, by omega, by go_num, rfl, k2, HK1.out, HK3.out, HK2.out, hk5⟩
            case measure => simp [intOf]; omega
        · clear hI2 hbw2 g1 g2 g3 HCe HM HI HB
          go_wp2_with (go_at_call 28; refine (appendEnd_any w.heap.size xs.length i _ N2 P2 O2 c hc i ⟨by omega, by omega⟩ (by omega) HI2.out (by omega)).mono ?_; rintro e w' ⟨O3, rfl, k1, k4, k5⟩)
          have HK1 := hideP k1
          have HK2 := hideP (HB2.out.trans k4)
          have hk5 : w.heap.size < w'.heap.size := Nat.lt_of_lt_of_le hsz2 k5
          clear k1 k4 k5
          go_wp2
          go_roundw
          case rel => exact ⟨i + 1, N2, P2, O3, by omega, by go_num, HK1.out, hr2, HK2.out, hk5⟩
          case measure => simp [intOf]; omega
    · go_wp2
      go_ret
      obtain rfl : i = xs.length := by omega
      exact ⟨_, N, P, O, rfl, HI.out, hr, HB.out, by omega⟩

end Go.Proofs.Qxb6600448a
